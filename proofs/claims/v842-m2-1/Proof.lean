import JvmDerived
import JvmDerived.Pilot.@@N@@Statement
import JvmDerived.Pilot.@@N@@Code
set_option linter.unusedVariables false
set_option linter.unusedSimpArgs false
namespace Jvm.Pilot.@@N@@
open Jvm Jvm.ClassFile Sem Op Lib Jvm.Free Jvm.Stand Jvm.LawKit Jvm.RoadKit Bundle Jvm.Pilot.@@N@@.Jvm.D
abbrev own_r (a b c d : Nat) : Room := { frames := a, cells := b, slots := c, locals := d }
abbrev own_m0 : MethodName := ⟨"com/example/permgrid/permgrid/ControlCharacters", "anyIn", "(Ljava/lang/String;)Z"⟩
abbrev own_m1 : MethodName := ⟨"com/example/permgrid/permgrid/ControlCharacters", "is", "(C)Z"⟩
abbrev own_m2 : MethodName := ⟨"com/example/permgrid/permgrid/ControlCharactersAnyInPinLaw", "ctl", "(C)Z"⟩
abbrev own_m3 : MethodName := ⟨"java/lang/String", "<init>", "([C)V"⟩
abbrev own_m4 : MethodName := ⟨"java/lang/String", "<init>", "([CIILjava/lang/Void;)V"⟩
abbrev own_m5 : MethodName := ⟨"java/lang/String", "charAt", "(I)C"⟩
abbrev own_m6 : MethodName := ⟨"java/lang/String", "checkIndex", "(II)V"⟩
abbrev own_m7 : MethodName := ⟨"java/lang/String", "coder", "()B"⟩
abbrev own_m8 : MethodName := ⟨"java/lang/String", "isLatin1", "()Z"⟩
abbrev own_m9 : MethodName := ⟨"java/lang/String", "length", "()I"⟩
abbrev own_m10 : MethodName := ⟨"java/lang/StringLatin1", "charAt", "([BI)C"⟩
abbrev own_m11 : MethodName := ⟨"java/lang/StringUTF16", "charAt", "([BI)C"⟩
abbrev own_m12 : MethodName := ⟨"java/lang/StringUTF16", "checkIndex", "(I[B)V"⟩
abbrev own_m13 : MethodName := ⟨"java/lang/StringUTF16", "coderFromArrayLen", "([BI)B"⟩
abbrev own_m14 : MethodName := ⟨"java/lang/StringUTF16", "compress", "([CII)[B"⟩
abbrev own_m15 : MethodName := ⟨"java/lang/StringUTF16", "compress", "([CI[BII)I"⟩
abbrev own_m16 : MethodName := ⟨"java/lang/StringUTF16", "getChar", "([BI)C"⟩
abbrev own_m17 : MethodName := ⟨"java/lang/StringUTF16", "length", "([B)I"⟩
abbrev own_m18 : MethodName := ⟨"java/lang/StringUTF16", "newBytesFor", "(I)[B"⟩
abbrev own_m19 : MethodName := ⟨"java/lang/StringUTF16", "newBytesLength", "(I)I"⟩
abbrev own_m20 : MethodName := ⟨"java/lang/StringUTF16", "putChar", "([BII)V"⟩
abbrev own_m21 : MethodName := ⟨"java/lang/StringUTF16", "toBytes", "([CII)[B"⟩
abbrev own_m22 : MethodName := ⟨"jdk/internal/util/Preconditions", "checkIndex", "(IILjava/util/function/BiFunction;)I"⟩
theorem own_w (i : Nat) {d : Jvm.Cond} (h : tables_1[i]? = some d) : d ∈ tables_1 := List.mem_of_getElem? h
def own_Go (p : Program) (e : Env) (below : List Frame) (A B : State) : Prop := ∀ t, Steps p.tables e below B t → Steps p.tables e below A t
abbrev own_top {p : Program} {e : Env} {below : List Frame} {A T : State} {g : JFrame} (_ : own_Go p e below A (T.setTop g)) : JFrame := g
section OwnKit
variable {p : Program} {l : Launch} {e : Env} {R : Room} {s : State} {m : MethodId} {args : Array Value} {below : List Frame} {meth : Method} {c : Code} {T : State} {locs : List Loc} {cells slots : Nat}
theorem retI (X : Stand p l e R s m args below meth c T locs cells slots) (hx : p.tables.exec = Jvm.exec) {pc : Nat} {Ls : Array Slot} {z : Int32} {rest : List Value} (hret : meth.sig.returnType = some .int) (hd : decode c.code pc = .ok (.ireturn, 1)) {fs : List Frame}
    (hl : ∀ (f : JFrame) (acts : List Action), f.method = m → f.locked = none → f.entered = [] → (doReturn e (T.setTop f) acts (some (.int z))).1 = T.setFrames fs) : Steps p.tables e below (T.setTop (mkF m pc Ls (.int z :: rest))) (T.setFrames fs) :=
  retOut X hx hret rfl (Or.inl ⟨rfl, Or.inl rfl, z, rfl⟩) hd hl
theorem own_retR (X : Stand p l e R s m args below meth c T locs cells slots) (hx : p.tables.exec = Jvm.exec) {pc : Nat} {Ls : Array Slot} {w : Value} {t : FieldType} {rest : List Value} (hret : meth.sig.returnType = some t) (ht : t.isReference = true) (hw : w.isRef = true) (hd : decode c.code pc = .ok (.areturn, 1)) {fs : List Frame}
    (hl : ∀ (f : JFrame) (acts : List Action), f.method = m → f.locked = none → f.entered = [] → (doReturn e (T.setTop f) acts (some w)).1 = T.setFrames fs) : Steps p.tables e below (T.setTop (mkF m pc Ls (w :: rest))) (T.setFrames fs) :=
  retOut X hx hret (by cases t <;> cases w <;> simp_all [FieldType.isReference, Value.isRef, narrow]) (Or.inr (Or.inr (Or.inr (Or.inr ⟨rfl, ht, hw⟩)))) hd hl
end OwnKit

theorem own_eqI {args : Array Value} {first s : State} {o : Option Outcome} {idx : List Nat} {t : Term} {k : Int32} (h : (Jvm.Cond.eq t (.int k)).value args first o s idx = some true) : t.eval args first o idx s = some (.int k) := by
  obtain ⟨x, y, h1, h2, h3, h4⟩ := cmp_v (Or.inl h)
  obtain rfl : y = .int k := by simpa [Term.eval] using h2.symm
  obtain ⟨z, rfl⟩ := h4
  simp [Cond.value, h1, h2] at h
  subst h
  exact h1

theorem own_since (s : State) (n : Nat) : s.Since s.vm n := (State.WarmedH.refl s).since n
theorem own_fc {s : State} {vm' : Vm} {own : String} {k : ClassId} (h : s.vm.findClass own = some k) (w : s.Warmed39 vm') : (s.setVm vm').vm.findClass own = some k := by
  rw [show (s.setVm vm').vm = vm' from rfl, w.alike.findClass]; exact h
theorem own_wideMono {s t : State} {o : Outcome} {L : List Loc} {k n k' n' : Nat} (h : ReturnedEndW s o t L k n) (hk : k ≤ k') (hn : n ≤ n') : ReturnedEndW s o t L k' n' := ⟨h.1, h.2.1, h.2.2.1, h.2.2.2.mono hk hn⟩

theorem own_strAtoms (a0 : Array Value) (Z : State) (hw : ∀ d ∈ tables_1, d.before a0 Z = true) : ∀ a ∈ Bundle.stringAtoms, a.before a0 Z = true := by
  intro a ha
  simp only [Bundle.stringAtoms, List.mem_cons, List.not_mem_nil, or_false] at ha
  rcases ha with rfl | rfl | rfl | rfl | rfl | rfl | rfl
  · exact (hw _ (own_w 4 rfl))
  · exact (hw _ (own_w 3 rfl))
  · exact (hw _ (own_w 16 rfl))
  · exact (hw _ (own_w 17 rfl))
  · exact (hw _ (own_w 18 rfl))
  · exact (hw _ (own_w 19 rfl))
  · exact (hw _ (own_w 20 rfl))

def own_EL : List (String × Nat) := [("java/lang/String", 7)]
theorem own_ht0 : (∀ c ∈ "".toList, c.toNat < 256) ∧ "".toList.map (fun c => Value.int (Jvm.Lit.byteI c.toNat.toUInt16)) = [] := ⟨by first | decide +kernel | simp, by first | rfl | decide +kernel | simp⟩
theorem own_EW (a0 : Array Value) (Z : State) (hw : ∀ d ∈ tables_1, d.before a0 Z = true) : EW Z a0 own_EL := EW.cons (hw _ (own_w 15 rfl)) own_ht0.1 EW.nil
theorem own_ELsub : ∀ q ∈ own_EL, q ∈ consts_1 := by decide
section OwnHeld
variable {p : Program} {l : Launch} {e : Env} {R : Room} {s : State} {args : Array Value} {below : List Frame} {Z : State} {a0 : Array Value} {EL : List (String × Nat)} {h : Heap} {vm0 : Vm}
theorem own_backH {y : MethodName} {bytes : ByteArray} {maxL : Nat} {ret : Option FieldType} {rm : Room} {len W : Nat} {as' : Array Value} {SF : List Addr} {Q : Option Value → Heap → List Loc → Prop}
    (hM : MetFree l y (head1 [Jvm.Cond.code y bytes maxL ret] rm) (fun a U => a = as' ∧ Z.Warmed39 U.vm ∧ U.heap = h ∧ CHv Z EL U.vm h ∧ ∀ x ∈ SF, Safe Z EL U.vm h x) (fun _ _ _ _ _ => True) (fun _ U o U' => ∃ v L, o = .returned v ∧ Q v U'.heap L ∧ CHr Z EL U.vm U.heap U'.vm U'.heap ∧ ReturnedEndW U o U' L rm.cells rm.slots))
    (hZ : Z.Warmed39 vm0) (wc : (Jvm.Cond.code y bytes maxL ret).before a0 Z = true) (wz : (Jvm.Cond.initialized y.cls).before a0 Z = true) (hf : rm.frames + 1 ≤ R.frames) (hl : W + (maxL + 11) + rm.locals ≤ R.locals) (hEL : EW Z a0 EL) (H : CHv Z EL vm0 h) (hs : ∀ x ∈ SF, Safe Z EL vm0 h x) (hlt : ∀ x ∈ SF, x < h.size) :
    BackS l R p e below (s.setVm vm0) args y len W (fun A a => a = as' ∧ A.U.heap = h ∧ A.cells + rm.cells ≤ R.cells ∧ A.slots + rm.slots ≤ R.slots)
      (fun A _ v B => ∃ L, Q v B.U.heap L ∧ B.locs = A.locs ++ L ∧ B.cells = A.cells + rm.cells ∧ B.slots = A.slots + rm.slots ∧ CHr Z EL vm0 h B.U.vm B.U.heap) :=
  BackS.of_freeW (bytes := bytes) (maxL := maxL) (ret := ret) (E := fun _ first o t L k n => k = rm.cells ∧ n = rm.slots ∧ (∃ v, o = .returned v ∧ Q v t.heap L) ∧ CHr Z EL first.vm first.heap t.vm t.heap) hM hf hl
    (fun m meth c A a Y hp => have hU : Z.Warmed39 A.U.vm := wtrans (s := s.setVm vm0) hZ Y.warmed
      ⟨by show (Jvm.Cond.and _ .tt).before a A.U = true; rw [Cond.before_and, mv hU wc]; rfl, mv hU wc, mv hU wz, hp.2.2.1, hp.2.2.2⟩)
    (fun m meth c A a g mk Y hp => ⟨hp.1, wtrans (s := s.setVm vm0) hZ Y.warmed, hp.2.1, (CHv.at Y hZ hEL H).1, fun x hx => (CHv.at Y hZ hEL H).safe (hlt x hx) (hs x hx)⟩) (fun _ _ _ _ _ _ _ _ _ => trivial)
    (fun _ _ _ _ ⟨v, L, h1, h2, h3, h4⟩ => ⟨L, _, _, h4, rfl, rfl, ⟨v, h1, h2⟩, h3⟩)
    (fun m meth c A a g mk v t L k n Y hp _ _ ⟨e1, e2, ⟨v', e3, e4⟩, e5⟩ => by
      cases e3; subst e1 e2
      refine ⟨L, e4, rfl, rfl, rfl, (CHv.at Y hZ hEL H).trans ?_⟩
      rw [← hp.2.1]; exact e5)
end OwnHeld

def own_SC (Z : State) (wC : Int32) : Prop := Sta Z Z.heap "java/lang/String" "COMPACT_STRINGS" "Z" (.int wC) ∧ ¬ wC = (0 : Int32)
def own_SU (Z : State) : Prop := Sta Z Z.heap "java/lang/StringUTF16" "$assertionsDisabled" "Z" (.int 1) ∧ Sta Z Z.heap "java/lang/StringUTF16" "HI_BYTE_SHIFT" "I" (.int 0) ∧ Sta Z Z.heap "java/lang/StringUTF16" "LO_BYTE_SHIFT" "I" (.int 8)
def own_SF (Z : State) (wF : Value) : Prop := Sta Z Z.heap "jdk/internal/util/Preconditions" "SIOOBE_FORMATTER" "Ljava/util/function/BiFunction;" wF ∧ wF.isRef = true

def own_lb (c : Int32) : Value := .int (nar .byte (c.toInt8.toInt32))
def own_hb (c : Int32) : Value := .int (nar .byte ((c >>> ((0 : Int32) &&& 31)).toInt8.toInt32))
def own_gb (c : Int32) : Value := .int (nar .byte ((c >>> ((8 : Int32) &&& 31)).toInt8.toInt32))
def own_ub : List Int32 → List Value
  | [] => []
  | c :: cs => own_hb c :: own_gb c :: own_ub cs
def own_len (cs : List Int32) : Int32 := Int32.ofNat cs.length
def own_len2 (cs : List Int32) : Int32 := Int32.ofNat (2 * cs.length)
def own_Lat : List Int32 → Prop
  | [] => True
  | c :: cs => (0 ≤ c.toInt ∧ c.toInt < 256) ∧ own_Lat cs
def own_Chr : List Int32 → Prop
  | [] => True
  | c :: cs => (0 ≤ c.toInt ∧ c.toInt < 65536) ∧ own_Chr cs
theorem own_ltOf {c : Int32} (h : ¬ (255 : Int32) < c) : c.toInt < 256 := by
  rw [Int32.lt_iff_toInt_lt, show (255 : Int32).toInt = 255 from rfl] at h
  omega
theorem own_fitAt {Z : State} {h : Heap} {a : Addr} {k : ClassId} {z c : Int32} {vs : List Value} {d : Value} (F : Arv Z h a k .char z vs d) (i : Nat) (hi : i < z.toNatClampNeg) (e : vs.getD i d = .int c) : 0 ≤ c.toInt ∧ c.toInt < 65536 := by
  obtain ⟨cl, -, -, S, -, -, G⟩ := F
  have q := G i (by rw [S]; exact hi)
  rw [e] at q
  have r := rng_char q
  rw [Int32.lt_iff_toInt_lt, Int32.lt_iff_toInt_lt, show (0 : Int32).toInt = 0 from rfl, show (65535 : Int32).toInt = 65535 from rfl] at r
  omega
def own_Str (Z : State) (h : Heap) (a vb : Addr) (kb : ClassId) (cs : List Int32) : Prop :=
  Exa Z h a "java/lang/String" ∧ Fld Z h a "java/lang/String" "value" "[B" (.ref vb) ∧
    ((Fld Z h a "java/lang/String" "coder" "B" (.int 0) ∧ own_Lat cs ∧ Arv Z h vb kb .byte (own_len cs) (cs.map own_lb) (.int 0)) ∨
     (Fld Z h a "java/lang/String" "coder" "B" (.int 1) ∧ own_Chr cs ∧ Arv Z h vb kb .byte (own_len2 cs) (own_ub cs) (.int 0)))
theorem own_Str.ext {Z : State} {h h' : Heap} {a vb : Addr} {kb : ClassId} {cs : List Int32} (F : own_Str Z h a vb kb cs) (E : Ext h h') : own_Str Z h' a vb kb cs := by
  obtain ⟨h1, h2, ⟨h3, h4, h5⟩ | ⟨h3, h4, h5⟩⟩ := F
  · exact ⟨h1.ext E, h2.ext E, Or.inl ⟨h3.ext E, h4, h5.ext E⟩⟩
  · exact ⟨h1.ext E, h2.ext E, Or.inr ⟨h3.ext E, h4, h5.ext E⟩⟩
theorem own_Str.keep {Z : State} {h h' : Heap} {a vb : Addr} {kb : ClassId} {cs : List Int32} {ws : List Addr} (F : own_Str Z h a vb kb cs) (K : Keep h h' ws) (n1 : a ∉ ws) (n2 : vb ∉ ws) : own_Str Z h' a vb kb cs := by
  obtain ⟨h1, h2, ⟨h3, h4, h5⟩ | ⟨h3, h4, h5⟩⟩ := F
  · exact ⟨h1.keep K, h2.keep K n1, Or.inl ⟨h3.keep K n1, h4, h5.keep K n2⟩⟩
  · exact ⟨h1.keep K, h2.keep K n1, Or.inr ⟨h3.keep K n1, h4, h5.keep K n2⟩⟩
theorem own_Str.lt0 {Z : State} {h : Heap} {a vb : Addr} {kb : ClassId} {cs : List Int32} (F : own_Str Z h a vb kb cs) : a < h.size := F.1.lt
theorem own_Str.lt1 {Z : State} {h : Heap} {a vb : Addr} {kb : ClassId} {cs : List Int32} (F : own_Str Z h a vb kb cs) : vb < h.size := by
  obtain ⟨h1, h2, ⟨h3, h4, h5⟩ | ⟨h3, h4, h5⟩⟩ := F
  · exact h5.lt
  · exact h5.lt
def own_gc (b0 b1 : Int32) : Int32 := nar .char ((((b0 &&& (255 : Int32)) <<< ((0 : Int32) &&& 31)) ||| ((b1 &&& (255 : Int32)) <<< ((8 : Int32) &&& 31))).toUInt32.toUInt16.toUInt32.toInt32)
def own_lc (u : Int32) : Int32 := nar .char ((u &&& (255 : Int32)).toUInt32.toUInt16.toUInt32.toInt32)
theorem own_narByte (x : Int32) : ((nar .byte x).toInt - x.toInt) % 256 = 0 := by
  have h := (c_i2b x).1
  show (x.toInt8.toInt32.toInt - x.toInt) % 256 = 0
  exact h
theorem own_narChar (x : Int32) (h0 : 0 ≤ x.toInt) (h1 : x.toInt < 65536) : nar .char x = x := by
  show x.toUInt32.toUInt16.toUInt32.toInt32 = x
  have h := c_i2c x
  exact Int32.toInt_inj.mp (by omega)
theorem own_i2c (x : Int32) (h0 : 0 ≤ x.toInt) (h1 : x.toInt < 65536) : x.toUInt32.toUInt16.toUInt32.toInt32 = x := own_narChar x h0 h1
theorem own_latget (c : Int32) (h : 0 ≤ c.toInt ∧ c.toInt < 256) : own_lc (nar .byte (c.toInt8.toInt32)) = c := by
  have h1 := own_narByte (c.toInt8.toInt32)
  have h2 := (c_i2b c).1
  have h3 := c_mask (nar .byte (c.toInt8.toInt32)) 255 8 (by decide) (by decide)
  have e : (nar .byte (c.toInt8.toInt32)) &&& (255 : Int32) = c := Int32.toInt_inj.mp (by omega)
  unfold own_lc
  rw [e, own_i2c c h.1 (by omega), own_narChar c h.1 (by omega)]
theorem own_utfget (c : Int32) (h : 0 ≤ c.toInt ∧ c.toInt < 65536) : own_gc (nar .byte ((c >>> ((0 : Int32) &&& 31)).toInt8.toInt32)) (nar .byte ((c >>> ((8 : Int32) &&& 31)).toInt8.toInt32)) = c := by
  have s0 := c_ishr c 0 0 (by decide)
  have s8 := c_ishr c 8 8 (by decide)
  have a1 := own_narByte ((c >>> ((0 : Int32) &&& 31)).toInt8.toInt32)
  have a2 := (c_i2b (c >>> ((0 : Int32) &&& 31))).1
  have b1 := own_narByte ((c >>> ((8 : Int32) &&& 31)).toInt8.toInt32)
  have b2 := (c_i2b (c >>> ((8 : Int32) &&& 31))).1
  unfold own_gc
  generalize nar .byte ((c >>> ((0 : Int32) &&& 31)).toInt8.toInt32) = x at *
  generalize nar .byte ((c >>> ((8 : Int32) &&& 31)).toInt8.toInt32) = y at *
  have m1 := c_mask x 255 8 (by decide) (by decide)
  have m2 := c_mask y 255 8 (by decide) (by decide)
  have t1 := c_ishl (x &&& 255) 0 0 (by decide)
  have t2 := c_ishl (y &&& 255) 8 8 (by decide)
  generalize (c >>> ((0 : Int32) &&& 31)).toInt8.toInt32 = u at *
  generalize (c >>> ((8 : Int32) &&& 31)).toInt8.toInt32 = v at *
  have r1 := rng32 ((x &&& 255) <<< ((0 : Int32) &&& 31))
  have r2 := rng32 ((y &&& 255) <<< ((8 : Int32) &&& 31))
  have r3 := rng32 (((x &&& 255) <<< ((0 : Int32) &&& 31)) ||| ((y &&& 255) <<< ((8 : Int32) &&& 31)))
  have o := c_or' ((x &&& 255) <<< ((0 : Int32) &&& 31)) ((y &&& 255) <<< ((8 : Int32) &&& 31)) 8 (by decide) 256 (by decide) (by omega) (by omega) (by omega)
  have e : ((x &&& 255) <<< ((0 : Int32) &&& 31)) ||| ((y &&& 255) <<< ((8 : Int32) &&& 31)) = c := Int32.toInt_inj.mp (by omega)
  rw [e, own_i2c c h.1 h.2, own_narChar c h.1 h.2]

theorem own_narChar2 (b0 b1 : Int32) : nar .char (own_gc b0 b1) = own_gc b0 b1 := by
  have h := c_i2c ((((b0 &&& (255 : Int32)) <<< ((0 : Int32) &&& 31)) ||| ((b1 &&& (255 : Int32)) <<< ((8 : Int32) &&& 31))).toUInt32.toUInt16.toUInt32.toInt32)
  exact own_narChar _ h.2.1 h.2.2

theorem own_lenI (cs : List Int32) (h : cs.length < 1000) : (own_len cs).toInt = cs.length := by
  unfold own_len
  exact Int32.toInt_ofNat_small (by omega)
theorem own_lenI2 (cs : List Int32) (h : cs.length < 1000) : (own_len2 cs).toInt = 2 * cs.length := by
  unfold own_len2
  rw [Int32.toInt_ofNat_small (by omega)]
  omega
theorem own_lenL (cs : List Int32) : (own_len cs) >>> ((0 : Int32) &&& 31) = own_len cs := by
  have e := c_ishr (own_len cs) 0 0 (by decide)
  exact Int32.toInt_inj.mp (by omega)
theorem own_lenU (cs : List Int32) (h : cs.length < 1000) : (own_len2 cs) >>> ((1 : Int32) &&& 31) = own_len cs := by
  have e := c_ishr (own_len2 cs) 1 1 (by decide)
  have a := own_lenI cs h
  have b := own_lenI2 cs h
  exact Int32.toInt_inj.mp (by omega)
theorem own_ix {p : Int32} {cs : List Int32} (h : cs.length < 1000) (h1 : ¬ p < (0 : Int32)) (h2 : p < own_len cs) : 0 ≤ p.toInt ∧ p.toInt < cs.length ∧ p.toNatClampNeg = p.toInt.toNat := by
  rw [Int32.lt_iff_toInt_lt, own_lenI cs h] at h2
  rw [Int32.lt_iff_toInt_lt, show (0 : Int32).toInt = 0 from rfl] at h1
  exact ⟨by omega, h2, rfl⟩
theorem own_ixn {p : Int32} {cs : List Int32} (h : cs.length < 1000) (h1 : ¬ p < (0 : Int32)) (h2 : p < own_len cs) : p.toNatClampNeg < cs.length := by
  obtain ⟨a, b, e⟩ := own_ix h h1 h2
  rw [e]; omega
theorem own_getLat {p c : Int32} {cs : List Int32} (h : cs.length < 1000) (h1 : ¬ p < (0 : Int32)) (h2 : p < own_len cs) (hc : cs.getD p.toNatClampNeg 0 = c) : (cs.map own_lb).getD p.toNatClampNeg (.int 0) = .int (nar .byte (c.toInt8.toInt32)) := by
  have k := own_ixn h h1 h2
  subst hc
  simp [own_lb, k]
theorem own_ubAt : ∀ (cs : List Int32) (k : Nat), k < cs.length → (own_ub cs).getD (2 * k) (.int 0) = own_hb (cs.getD k 0) ∧ (own_ub cs).getD (2 * k + 1) (.int 0) = own_gb (cs.getD k 0)
  | [], k, h => absurd h (Nat.not_lt_zero k)
  | c :: cs, 0, _ => ⟨rfl, rfl⟩
  | c :: cs, k + 1, h => by
    have ih := own_ubAt cs k (Nat.lt_of_succ_lt_succ h)
    rw [show 2 * (k + 1) = 2 * k + 1 + 1 from by omega]
    exact ⟨ih.1, ih.2⟩
theorem own_LatAt : ∀ (cs : List Int32) (k : Nat), own_Lat cs → k < cs.length → 0 ≤ (cs.getD k 0).toInt ∧ (cs.getD k 0).toInt < 256
  | [], k, _, q => absurd q (Nat.not_lt_zero k)
  | c :: cs, 0, h, _ => h.1
  | c :: cs, k + 1, h, q => own_LatAt cs k h.2 (Nat.lt_of_succ_lt_succ q)
theorem own_ChrAt : ∀ (cs : List Int32) (k : Nat), own_Chr cs → k < cs.length → 0 ≤ (cs.getD k 0).toInt ∧ (cs.getD k 0).toInt < 65536
  | [], k, _, q => absurd q (Nat.not_lt_zero k)
  | c :: cs, 0, h, _ => h.1
  | c :: cs, k + 1, h, q => own_ChrAt cs k h.2 (Nat.lt_of_succ_lt_succ q)
theorem own_J {p : Int32} {cs : List Int32} (h : cs.length < 1000) (h1 : ¬ p < (0 : Int32)) (h2 : p < own_len cs) :
    (p <<< ((1 : Int32) &&& 31)).toInt = 2 * p.toInt ∧ ((p <<< ((1 : Int32) &&& 31)) + (1 : Int32)).toInt = 2 * p.toInt + 1 := by
  obtain ⟨a, b, e⟩ := own_ix h h1 h2
  have s := c_ishl p 1 1 (by decide)
  have r := rng32 (p <<< ((1 : Int32) &&& 31))
  have t := c_iadd (p <<< ((1 : Int32) &&& 31)) 1
  have r2 := rng32 ((p <<< ((1 : Int32) &&& 31)) + 1)
  rw [show (1 : Int32).toInt = 1 from rfl] at t
  exact ⟨by omega, by omega⟩
theorem own_Jb {p : Int32} {cs : List Int32} (h : cs.length < 1000) (h1 : ¬ p < (0 : Int32)) (h2 : p < own_len cs) :
    (¬ (p <<< ((1 : Int32) &&& 31)) < (0 : Int32)) ∧ ((p <<< ((1 : Int32) &&& 31)) < own_len2 cs) ∧ (¬ ((p <<< ((1 : Int32) &&& 31)) + (1 : Int32)) < (0 : Int32)) ∧ (((p <<< ((1 : Int32) &&& 31)) + (1 : Int32)) < own_len2 cs) ∧
      (p <<< ((1 : Int32) &&& 31)).toNatClampNeg = 2 * p.toNatClampNeg ∧ ((p <<< ((1 : Int32) &&& 31)) + (1 : Int32)).toNatClampNeg = 2 * p.toNatClampNeg + 1 ∧ p < ((own_len2 cs) >>> ((1 : Int32) &&& 31)) := by
  have j := own_J h h1 h2
  have b2 := own_lenI2 cs h
  obtain ⟨a, b, e⟩ := own_ix h h1 h2
  have e0 : (0 : Int32).toInt = 0 := rfl
  refine ⟨?_, ?_, ?_, ?_, ?_, ?_, ?_⟩
  · rw [Int32.lt_iff_toInt_lt, e0]; omega
  · rw [Int32.lt_iff_toInt_lt]; omega
  · rw [Int32.lt_iff_toInt_lt, e0]; omega
  · rw [Int32.lt_iff_toInt_lt]; omega
  · simp only [Int32.toNatClampNeg]; omega
  · simp only [Int32.toNatClampNeg]; omega
  · rw [own_lenU cs h]; exact h2
theorem own_getU {p c : Int32} {cs : List Int32} (h : cs.length < 1000) (h1 : ¬ p < (0 : Int32)) (h2 : p < own_len cs) (hc : cs.getD p.toNatClampNeg 0 = c) : (own_ub cs).getD (2 * p.toNatClampNeg) (.int 0) = .int (nar .byte ((c >>> ((0 : Int32) &&& 31)).toInt8.toInt32)) ∧ (own_ub cs).getD (2 * p.toNatClampNeg + 1) (.int 0) = .int (nar .byte ((c >>> ((8 : Int32) &&& 31)).toInt8.toInt32)) := by
  have q := own_ubAt cs p.toNatClampNeg (own_ixn h h1 h2)
  rw [hc] at q
  exact q

theorem d2_0 : decode jdk_42_method_149_code 0 = .ok (.aload_n 0, 1) := by decide +kernel
theorem d2_1 : decode jdk_42_method_149_code 1 = .ok (.invokespecial 1, 3) := by decide +kernel
theorem d2_4 : decode jdk_42_method_149_code 4 = .ok (.iload_n 3, 1) := by decide +kernel
theorem d2_5 : decode jdk_42_method_149_code 5 = .ok (.ifCond .ne 22, 3) := by decide +kernel
theorem d2_8 : decode jdk_42_method_149_code 8 = .ok (.aload_n 0, 1) := by decide +kernel
theorem d2_9 : decode jdk_42_method_149_code 9 = .ok (.ldc 7, 2) := by decide +kernel
theorem d2_11 : decode jdk_42_method_149_code 11 = .ok (.getfield 9, 3) := by decide +kernel
theorem d2_14 : decode jdk_42_method_149_code 14 = .ok (.putfield 9, 3) := by decide +kernel
theorem d2_17 : decode jdk_42_method_149_code 17 = .ok (.aload_n 0, 1) := by decide +kernel
theorem d2_18 : decode jdk_42_method_149_code 18 = .ok (.ldc 7, 2) := by decide +kernel
theorem d2_20 : decode jdk_42_method_149_code 20 = .ok (.getfield 15, 3) := by decide +kernel
theorem d2_23 : decode jdk_42_method_149_code 23 = .ok (.putfield 15, 3) := by decide +kernel
theorem d2_26 : decode jdk_42_method_149_code 26 = .ok (.return_, 1) := by decide +kernel
theorem pn_2 : plainName "java/lang/String" = true := by first | (simp [plainName, overriddenIn]; done) | decide +kernel
theorem ef_init4_0 (m : MethodId) (x0 : Addr) (x1 : Addr) : entryFrame m #[(.ref x0), (.ref x1), (.int 0), (.int 0), .null] 6 = mkF m 0 #[.val (.ref x0), .val (.ref x1), .val (.int 0), .val (.int 0), .val .null, .unset] [] := by first | (simp [entryFrame, mkF, argsToLocals, Value.category]; done) | rfl
def Qinit4_0 (Z : State) (a1 : Addr) (a2 : Addr) (h0 : Heap) (n0 : Nat) (v : Option Value) (h : Heap) (L : List Loc) : Prop := ∃ vb : Addr, ∃ kb : ClassId, v = none ∧ Fr n0 L ∧ Keep h0 h [a1] ∧ own_Str Z h a1 vb kb []
set_option maxRecDepth 65536 in
set_option maxHeartbeats 40000000 in
theorem rminit4_0 (l : Launch) (Z : State) (a0 : Array Value) (hw : ∀ d ∈ tables_1, d.before a0 Z = true) (ws : List Jvm.Cond) (a1 : Addr) (a2 : Addr) (h0 : Heap) (n0 : Nat) (Z0 : n0 ≤ h0.size) (O0 : Old Z n0 h0) (pE1 : Exa Z h0 a1 "java/lang/String") (pF1 : Fld Z h0 a1 "java/lang/String" "value" "[B" .null) (pF2 : Fld Z h0 a1 "java/lang/String" "coder" "B" (.int 0)) (pg1 : n0 ≤ a1) :
    MetFree l own_m4 (head1 (Jvm.Cond.code own_m4 jdk_42_method_149_code 6 none :: ws) (own_r 1 2 4 12)) (fun a U => a = #[(.ref a1), (.ref a2), (.int 0), (.int 0), .null] ∧ Z.Warmed39 U.vm ∧ U.heap = h0 ∧ CHv Z own_EL U.vm h0 ∧ ∀ x ∈ ([a1] : List Addr), Safe Z own_EL U.vm h0 x) (fun _ _ _ _ _ => True) (fun _ U o U' => ∃ v L, o = .returned v ∧ Qinit4_0 Z a1 a2 h0 n0 v U'.heap L ∧ CHr Z own_EL U.vm U.heap U'.vm U'.heap ∧ ReturnedEndW U o U' L (own_r 1 2 4 12).cells (own_r 1 2 4 12).slots) := by
  refine MetFree.of_bodySF (plainFor_of_name pn_2) hisR ?_
  intro p e s m args below meth c s₁ Bd hml0 hP hK
  obtain ⟨rfl, hZ, hh, hCH, hSF⟩ := hP
  have hx := Bd.exec
  have hby := Bd.bytes
  have hml : c.maxLocals = 6 := hml0
  have hown0 := findClass_of_methodNamed Bd.named
  have hown : s.vm.findClass "java/lang/String" = some m.cls := hown0
  have hnm := (name_of_methodNamed Bd.named Bd.method).1
  have X0 : Stand p l e (own_r 1 2 4 12) s m #[(.ref a1), (.ref a2), (.int 0), (.int 0), .null] below meth c s₁ [] 0 0 := Stand.of_body Bd
  have e0 : s₁.heap = h0 := by rw [← hh, Bd.state]; rfl
  have N0 := Fr.nil n0
  obtain ⟨S0, hS0⟩ : ∃ z, z = s₁.setTop (entryFrame m #[(.ref a1), (.ref a2), (.int 0), (.int 0), .null] 6) := ⟨_, rfl⟩
  have pre0 : own_Go p e below S0 (s₁.setTop (mkF m 0 #[.val (.ref a1), .val (.ref a2), .val (.int 0), .val (.int 0), .val .null, .unset] [])) := fun t k => by rw [hS0]; exact castTop (ef_init4_0 m a1 a2) k
  have fin : ∀ t, Steps p.tables e below S0 t → Steps p.tables e below (s₁.setTop (entryFrame m #[(.ref a1), (.ref a2), (.int 0), (.int 0), .null] 6)) t := fun t k => by rw [hS0] at k; exact k
  have ch0 : CHr Z own_EL s.vm h0 s.vm h0 := CHr.refl hCH
  have sf0 : Safe Z own_EL s.vm h0 a1 := hSF _ (List.mem_of_getElem? (i := 0) rfl)
  have kc0 : Keep h0 h0 [a1] := Keep.refl _ _
  have pre1 : own_Go p e below S0 (s₁.setTop (mkF m 1 #[.val (.ref a1), .val (.ref a2), .val (.int 0), .val (.int 0), .val .null, .unset] [(.ref a1)])) := by
    intro t kt
    refine pre0 t ?_
    refine XS.aloadN X0.here hx rfl (hb hby d2_0) rfl rfl ?_
    exact kt
  obtain ⟨T2, X2, e2, st2⟩ := initO X0 hx hZ hown (hw _ (own_w 12 rfl)) (hw _ (own_w 13 rfl)) (hw _ (own_w 14 rfl)) e0 (g := (mkF m 1 #[.val (.ref a1), .val (.ref a2), .val (.int 0), .val (.int 0), .val .null, .unset] [(.ref a1)])) rfl (by rw [hml]; rfl) rfl (hb hby d2_1) (by decide) (W := 0) (by show 2 * 0 + _ ≤ _; exact Nat.le_of_eq rfl) (by decide)
  have pre3 : own_Go p e below S0 (T2.setTop (mkF m 9 #[.val (.ref a1), .val (.ref a2), .val (.int 0), .val (.int 0), .val .null, .unset] [(.ref a1)])) := by
    intro t kt
    refine pre1 t ?_
    refine st2 _ ?_
    refine XS.iloadN X2.here hx rfl (hb hby d2_4) rfl ?_
    refine XS.ifNo X2.here hx rfl (hb hby d2_5) rfl ((if0 _ _).trans (teq (by decide : (0 : Int32) = (0 : Int32))).2) ?_
    refine XS.aloadN X2.here hx rfl (hb hby d2_8) rfl rfl ?_
    exact kt
  obtain ⟨b4, T4, h4, k4, v4, kv4, X4, e4, E4, hS4, hk4, hZ, hown, xE4, xC4, xF4, xV4, -, -, cr4, L4, hne4, st4⟩ := ldcCH (s := s) (vm0 := s.vm) X2 hx hZ hown (hw _ (own_w 15 rfl)) (own_strAtoms a0 Z hw) e2 (own_since s 0) (Nat.zero_le _) (own_EW a0 Z hw) (List.mem_of_getElem? (i := 0) rfl) ch0.1 (vs := []) (z := 0) own_ht0 (by decide) (by decide) (g := (mkF m 9 #[.val (.ref a1), .val (.ref a2), .val (.int 0), .val (.int 0), .val .null, .unset] [(.ref a1)])) rfl (hb hby d2_9) (n := 0) (by decide +kernel) (by decide) (by decide) (by decide)
  have zs5 : n0 ≤ h4.size := Nat.le_trans Z0 E4.1
  have kc6 : Keep h0 h4 [a1] := kc0.ext E4
  have ch7 : CHr Z own_EL s.vm h0 T4.vm h4 := ch0.trans (cr4)
  have sf8 : Safe Z own_EL T4.vm h4 a1 := cr4.safe pE1.lt sf0
  have ne9 : a1 ≠ b4 := (hne4 _ sf8).1
  have ne10 : a1 ≠ v4 := (hne4 _ sf8).2
  have pre11 : own_Go p e below S0 (T4.setTop (mkF m 11 #[.val (.ref a1), .val (.ref a2), .val (.int 0), .val (.int 0), .val .null, .unset] [(.ref b4), (.ref a1)])) := by
    intro t kt
    refine pre3 t ?_
    refine st4 _ ?_
    exact kt
  obtain ⟨T12, X12, e12, st12⟩ := getF X4 hx hZ hown (host := "") (Or.inl (hw _ (own_w 21 rfl))) Via.refl e4 xF4 (g := (mkF m 11 #[.val (.ref a1), .val (.ref a2), .val (.int 0), .val (.int 0), .val .null, .unset] [(.ref b4), (.ref a1)])) rfl rfl (hb hby d2_11)
  have pre13 : own_Go p e below S0 (T12.setTop (mkF m 14 #[.val (.ref a1), .val (.ref a2), .val (.int 0), .val (.int 0), .val .null, .unset] [(.ref v4), (.ref a1)])) := by
    intro t kt
    refine pre11 t ?_
    refine st12 _ ?_
    exact kt
  have f14 : Fld Z h4 a1 "java/lang/String" "value" "[B" .null := (pF1.ext E4)
  have f15 : Exa Z h4 a1 "java/lang/String" := (pE1.ext E4)
  obtain ⟨T16, h16, X16, e16, W16, st16⟩ := putF X12 hx hZ hown (host := "") (Or.inl (hw _ (own_w 21 rfl))) Via.refl e12 f14 f15 (Or.inr ⟨(hw _ (own_w 17 rfl)), rfl, hnm⟩) (hw _ (own_w 3 rfl)) (ty := (.array .byte)) (by decide) rfl rfl (g := (mkF m 14 #[.val (.ref a1), .val (.ref a2), .val (.int 0), .val (.int 0), .val .null, .unset] [(.ref v4), (.ref a1)])) rfl rfl (hb hby d2_14)
  have N16 := Fr.snoc X16 N0 pg1
  have zs17 : n0 ≤ h16.size := Nat.le_trans zs5 (Keep.of_wr W16).1
  have kc18 : Keep h0 h16 [a1] := kc6.wr W16 (Or.inl (List.mem_of_getElem? (i := 0) rfl))
  have hk19 : _ ≤ h16.size := Nat.le_trans hk4 (Keep.of_wr W16).1
  have ch20 : CHr Z own_EL s.vm h0 T4.vm h16 := ch7.trans (CHr.wr W16 sf8 ch7.1)
  have sf21 : Safe Z own_EL T4.vm h16 a1 := Safe.wr W16 sf8 ch7.1 sf8
  have fw16 : Fld Z h16 a1 "java/lang/String" "value" "[B" (.ref v4) := f14.same W16
  have pre22 : own_Go p e below S0 (T16.setTop (mkF m 18 #[.val (.ref a1), .val (.ref a2), .val (.int 0), .val (.int 0), .val .null, .unset] [(.ref a1)])) := by
    intro t kt
    refine pre13 t ?_
    refine st16 _ ?_
    refine XS.aloadN X16.here hx rfl (hb hby d2_17) rfl rfl ?_
    exact kt
  have pre23 : own_Go p e below S0 (T16.setTop (mkF m 20 #[.val (.ref a1), .val (.ref a2), .val (.int 0), .val (.int 0), .val .null, .unset] [(.ref b4), (.ref a1)])) := by
    intro t kt
    refine pre22 t ?_
    refine ldcAgain (s := s) (vm0 := T4.vm) X16 hx hZ hown (hw _ (own_w 15 rfl)) L4 (g := (mkF m 18 #[.val (.ref a1), .val (.ref a2), .val (.int 0), .val (.int 0), .val .null, .unset] [(.ref a1)])) rfl (hb hby d2_18) _ ?_
    exact kt
  have f24 : Fld Z h16 b4 "java/lang/String" "coder" "B" (.int 0) := (xC4.other W16 (Or.inl (Ne.symm ne9)))
  obtain ⟨T25, X25, e25, st25⟩ := getF X16 hx hZ hown (host := "") (Or.inl (hw _ (own_w 22 rfl))) Via.refl e16 f24 (g := (mkF m 20 #[.val (.ref a1), .val (.ref a2), .val (.int 0), .val (.int 0), .val .null, .unset] [(.ref b4), (.ref a1)])) rfl rfl (hb hby d2_20)
  have pre26 : own_Go p e below S0 (T25.setTop (mkF m 23 #[.val (.ref a1), .val (.ref a2), .val (.int 0), .val (.int 0), .val .null, .unset] [(.int 0), (.ref a1)])) := by
    intro t kt
    refine pre23 t ?_
    refine st25 _ ?_
    exact kt
  have f27 : Fld Z h16 a1 "java/lang/String" "coder" "B" (.int 0) := ((pF2.ext E4).other W16 (Or.inr (slot_ne (Or.inr (hw _ (own_w 18 rfl))) (Or.inr (hw _ (own_w 17 rfl))) (by decide) (t := .byte) (t' := (.array .byte)) (by decide) (by decide))))
  have f28 : Exa Z h16 a1 "java/lang/String" := (f15.wr W16)
  obtain ⟨T29, h29, X29, e29, W29, st29⟩ := putFN X25 hx hZ hown (hw _ (own_w 22 rfl)) Via.refl e25 f27 f28 (Or.inr ⟨(hw _ (own_w 18 rfl)), rfl, hnm⟩) (hw _ (own_w 3 rfl)) (ty := .byte) (v' := (.int 0)) (by decide) rfl (by decide) (g := (mkF m 23 #[.val (.ref a1), .val (.ref a2), .val (.int 0), .val (.int 0), .val .null, .unset] [(.int 0), (.ref a1)])) rfl rfl (hb hby d2_23)
  have N29 := Fr.snoc X29 N16 pg1
  have zs30 : n0 ≤ h29.size := Nat.le_trans zs17 (Keep.of_wr W29).1
  have kc31 : Keep h0 h29 [a1] := kc18.wr W29 (Or.inl (List.mem_of_getElem? (i := 0) rfl))
  have hk32 : _ ≤ h29.size := Nat.le_trans hk19 (Keep.of_wr W29).1
  have ch33 : CHr Z own_EL s.vm h0 T4.vm h29 := ch20.trans (CHr.wr W29 sf21 ch20.1)
  have sf34 : Safe Z own_EL T4.vm h29 a1 := Safe.wr W29 sf21 ch20.1 sf21
  have fw29 : Fld Z h29 a1 "java/lang/String" "coder" "B" (.int 0) := f27.same W29
  have pre35 : own_Go p e below S0 (T29.setTop (mkF m 26 #[.val (.ref a1), .val (.ref a2), .val (.int 0), .val (.int 0), .val .null, .unset] [])) := by
    intro t kt
    refine pre26 t ?_
    refine st29 _ ?_
    exact kt
  have f36 : Exa Z h29 a1 "java/lang/String" := (f28.wr W29)
  have f37 : Fld Z h29 a1 "java/lang/String" "value" "[B" (.ref v4) := (fw16.other W29 (Or.inr (slot_ne (Or.inr (hw _ (own_w 17 rfl))) (Or.inr (hw _ (own_w 18 rfl))) (by decide) (t := (.array .byte)) (t' := .byte) (by decide) (by decide))))
  have f38 : Arv Z h29 v4 kv4 .byte (0 : Int32) [] (.int 0) := ((xV4.other W16 (Ne.symm ne10)).other W29 (Ne.symm ne10))
  obtain ⟨fs, hr, hrun, hended, hRW⟩ := Stand.leaveW (s := s) (vm₁ := T4.vm) X29 hS4 (by rw [e29]; exact hk32) (v := none) (fun _ => rfl)
  refine ⟨_, _, fin _ (pre35 _ ?_), hrun, hended, _, _, rfl, ?_, (by rw [hh]; show CHr Z own_EL s.vm h0 T29.vm T29.heap; rw [e29]; exact ch33.trans (CHv.at (s := s) (vm0 := T4.vm) X29 hZ (own_EW a0 Z hw) ch33.1)), own_wideMono hRW (by decide) (by decide)⟩
  · exact X29.returnOut hx Bd.returns (hb hby d2_26) hr
  · show Qinit4_0 Z a1 a2 h0 n0 _ T29.heap _
    rw [e29]
    exact ⟨v4, kv4, rfl, N29, kc31, ⟨f36, f37, Or.inl ⟨fw29, trivial, f38⟩⟩⟩

theorem d1_0 : decode jdk_42_method_3_code 0 = .ok (.aload_n 0, 1) := by decide +kernel
theorem d1_1 : decode jdk_42_method_3_code 1 = .ok (.aload_n 1, 1) := by decide +kernel
theorem d1_2 : decode jdk_42_method_3_code 2 = .ok (.iconst 0, 1) := by decide +kernel
theorem d1_3 : decode jdk_42_method_3_code 3 = .ok (.aload_n 1, 1) := by decide +kernel
theorem d1_4 : decode jdk_42_method_3_code 4 = .ok (.arraylength, 1) := by decide +kernel
theorem d1_5 : decode jdk_42_method_3_code 5 = .ok (.aconst_null, 1) := by decide +kernel
theorem d1_6 : decode jdk_42_method_3_code 6 = .ok (.invokespecial 27, 3) := by decide +kernel
theorem d1_9 : decode jdk_42_method_3_code 9 = .ok (.return_, 1) := by decide +kernel
theorem pn_1 : plainName "java/lang/String" = true := by first | (simp [plainName, overriddenIn]; done) | decide +kernel
theorem pd_0 : parseMethodDescriptor "([CIILjava/lang/Void;)V" = some ⟨[(.array .char), .int, .int, (.object "java/lang/Void")], none⟩ := by decide +kernel
theorem ef_init1_0 (m : MethodId) (x0 : Addr) (x1 : Addr) : entryFrame m #[(.ref x0), (.ref x1)] 2 = mkF m 0 #[.val (.ref x0), .val (.ref x1)] [] := by first | (simp [entryFrame, mkF, argsToLocals, Value.category]; done) | rfl
def Qinit1_0 (Z : State) (a1 : Addr) (a2 : Addr) (kc : ClassId) (h0 : Heap) (n0 : Nat) (v : Option Value) (h : Heap) (L : List Loc) : Prop := ∃ vb : Addr, ∃ kb : ClassId, v = none ∧ Fr n0 L ∧ Keep h0 h [a1] ∧ own_Str Z h a1 vb kb []
set_option maxRecDepth 65536 in
set_option maxHeartbeats 40000000 in
theorem rminit1_0 (l : Launch) (Z : State) (a0 : Array Value) (hw : ∀ d ∈ tables_1, d.before a0 Z = true) (ws : List Jvm.Cond) (a1 : Addr) (a2 : Addr) (kc : ClassId) (h0 : Heap) (n0 : Nat) (Z0 : n0 ≤ h0.size) (O0 : Old Z n0 h0) (pE1 : Exa Z h0 a1 "java/lang/String") (pF1 : Fld Z h0 a1 "java/lang/String" "value" "[B" .null) (pF2 : Fld Z h0 a1 "java/lang/String" "coder" "B" (.int 0)) (pg1 : n0 ≤ a1) (VC : Arv Z h0 a2 kc .char (0 : Int32) [] (.int 0)) :
    MetFree l own_m3 (head1 (Jvm.Cond.code own_m3 jdk_42_method_3_code 2 none :: ws) (own_r 2 2 4 29)) (fun a U => a = #[(.ref a1), (.ref a2)] ∧ Z.Warmed39 U.vm ∧ U.heap = h0 ∧ CHv Z own_EL U.vm h0 ∧ ∀ x ∈ ([a1] : List Addr), Safe Z own_EL U.vm h0 x) (fun _ _ _ _ _ => True) (fun _ U o U' => ∃ v L, o = .returned v ∧ Qinit1_0 Z a1 a2 kc h0 n0 v U'.heap L ∧ CHr Z own_EL U.vm U.heap U'.vm U'.heap ∧ ReturnedEndW U o U' L (own_r 2 2 4 29).cells (own_r 2 2 4 29).slots) := by
  refine MetFree.of_bodySF (plainFor_of_name pn_1) hisR ?_
  intro p e s m args below meth c s₁ Bd hml0 hP hK
  obtain ⟨rfl, hZ, hh, hCH, hSF⟩ := hP
  have hx := Bd.exec
  have hby := Bd.bytes
  have hml : c.maxLocals = 2 := hml0
  have hown0 := findClass_of_methodNamed Bd.named
  have hown : s.vm.findClass "java/lang/String" = some m.cls := hown0
  have hnm := (name_of_methodNamed Bd.named Bd.method).1
  have X0 : Stand p l e (own_r 2 2 4 29) s m #[(.ref a1), (.ref a2)] below meth c s₁ [] 0 0 := Stand.of_body Bd
  have e0 : s₁.heap = h0 := by rw [← hh, Bd.state]; rfl
  have N0 := Fr.nil n0
  obtain ⟨S0, hS0⟩ : ∃ z, z = s₁.setTop (entryFrame m #[(.ref a1), (.ref a2)] 2) := ⟨_, rfl⟩
  have pre0 : own_Go p e below S0 (s₁.setTop (mkF m 0 #[.val (.ref a1), .val (.ref a2)] [])) := fun t k => by rw [hS0]; exact castTop (ef_init1_0 m a1 a2) k
  have fin : ∀ t, Steps p.tables e below S0 t → Steps p.tables e below (s₁.setTop (entryFrame m #[(.ref a1), (.ref a2)] 2)) t := fun t k => by rw [hS0] at k; exact k
  have ch0 : CHr Z own_EL s.vm h0 s.vm h0 := CHr.refl hCH
  have sf0 : Safe Z own_EL s.vm h0 a1 := hSF _ (List.mem_of_getElem? (i := 0) rfl)
  have kc0 : Keep h0 h0 [a1] := Keep.refl _ _
  have pre1 : own_Go p e below S0 (s₁.setTop (mkF m 4 #[.val (.ref a1), .val (.ref a2)] [(.ref a2), (.int 0), (.ref a2), (.ref a1)])) := by
    intro t kt
    refine pre0 t ?_
    refine XS.aloadN X0.here hx rfl (hb hby d1_0) rfl rfl ?_
    refine XS.aloadN X0.here hx rfl (hb hby d1_1) rfl rfl ?_
    refine XS.iconst X0.here hx rfl (hb hby d1_2) ?_
    refine XS.aloadN X0.here hx rfl (hb hby d1_3) rfl rfl ?_
    exact kt
  obtain ⟨cl2, Ar2, -, Sz2, Ng2, -, -⟩ := id VC
  have pre3 : own_Go p e below S0 (s₁.setTop (mkF m 6 #[.val (.ref a1), .val (.ref a2)] [.null, (.int 0), (.int 0), (.ref a2), (.ref a1)])) := by
    intro t kt
    refine pre1 t ?_
    refine X0.arraylength hx (by rw [e0]; exact Ar2.1) (State.isArrayOf_alike hZ.alike Ar2.2.1) (g := (mkF m 4 #[.val (.ref a1), .val (.ref a2)] [(.ref a2), (.int 0), (.ref a2), (.ref a1)])) rfl rfl (hb hby d1_4) _ ?_
    rw [len_of Sz2 Ng2]
    show Steps p.tables e below (s₁.setTop (mkF m 5 #[.val (.ref a1), .val (.ref a2)] [(.int 0), (.int 0), (.ref a2), (.ref a1)])) _
    refine XS.aconstNull X0.here hx rfl (hb hby d1_5) ?_
    exact kt
  obtain ⟨_, _, ⟨T4, L4, k4, n4⟩, -, X4, hSn4, hgn4, ⟨Lc4, hQ4, l4, y4, z4, cr4⟩, st4⟩ := X0.specialBackS hx (y := own_m4) rfl hown (mvT hZ (hw _ (own_w 8 rfl))) (mvT hZ (hw _ (own_w 9 rfl))) (mvT hZ (hw _ (own_w 11 rfl))) (by decide) (own_backH (s := s) (vm0 := s.vm) (W := 0) (rminit4_0 l Z a0 hw [] a1 a2 h0 n0 Z0 O0 pE1 pF1 pF2 pg1) hZ (hw _ (own_w 11 rfl)) (hw _ (own_w 4 rfl)) (by decide) (by decide) (own_EW a0 Z hw) ch0.1 (allS sf0 all0) (allS pE1.lt all0)) (g := (mkF m 6 #[.val (.ref a1), .val (.ref a2)] [.null, (.int 0), (.int 0), (.ref a2), (.ref a1)])) rfl (by rw [hml]; rfl) (Steps.refl _) (a := a1) (argsL := [(.ref a2), (.int 0), (.int 0), .null]) (rest := []) (lenOf pd_0 rfl) rfl (by show 2 * 0 + _ ≤ _; exact Nat.le_of_eq rfl) (hb hby d1_6) (fun _ _ => ⟨rfl, e0, (by decide : 0 + 2 ≤ _), (by decide : 0 + 4 ≤ _)⟩)
  dsimp only [Pt.U, Pt.locs, Pt.cells, Pt.slots] at X4 l4 y4 z4 st4 hQ4 hSn4 hgn4 cr4
  subst l4 y4 z4
  have hown := own_fc hown hSn4.1
  have hZ : Z.Warmed39 (s.setVm T4.vm).vm := State.Warmed39.trans (t := s) hZ hSn4.1
  obtain ⟨vb5, kb6, rfl, Nq4, K4, g7⟩ := hQ4
  have N4 := Fr.app N0 Nq4
  have zs8 : n0 ≤ T4.heap.size := Nat.le_trans Z0 K4.1
  have kc9 : Keep h0 T4.heap [a1] := kc0.trans K4 (allS (Or.inl (List.mem_of_getElem? (i := 0) rfl)) all0)
  have ch10 : CHr Z own_EL s.vm h0 T4.vm T4.heap := ch0.trans (cr4)
  have sf11 : Safe Z own_EL T4.vm T4.heap a1 := cr4.safe pE1.lt sf0
  have pre12 : own_Go p e below S0 (T4.setTop (mkF m 9 #[.val (.ref a1), .val (.ref a2)] [])) := by
    intro t kt
    refine pre3 t ?_
    refine st4.trans ?_
    show Steps p.tables e below (T4.setTop (mkF m 9 #[.val (.ref a1), .val (.ref a2)] [])) _
    exact kt
  obtain ⟨fs, hr, hrun, hended, hRW⟩ := Stand.leaveW (s := s) (vm₁ := T4.vm) X4 hSn4 (Nat.le_refl _) (v := none) (fun _ => rfl)
  refine ⟨_, _, fin _ (pre12 _ ?_), hrun, hended, _, _, rfl, ?_, (by rw [hh]; show CHr Z own_EL s.vm h0 T4.vm T4.heap; exact ch10.trans (CHv.at (s := s) (vm0 := T4.vm) X4 hZ (own_EW a0 Z hw) ch10.1)), own_wideMono hRW (by decide) (by decide)⟩
  · exact X4.returnOut hx Bd.returns (hb hby d1_9) hr
  · show Qinit1_0 Z a1 a2 kc h0 n0 _ T4.heap _
    exact ⟨vb5, kb6, rfl, N4, kc9, g7⟩

theorem d6_0 : decode jdk_42_method_152_code 0 = .ok (.getstatic 38, 3) := by decide +kernel
theorem d6_3 : decode jdk_42_method_152_code 3 = .ok (.ifCond .eq 10, 3) := by decide +kernel
theorem d6_6 : decode jdk_42_method_152_code 6 = .ok (.aload_n 0, 1) := by decide +kernel
theorem d6_7 : decode jdk_42_method_152_code 7 = .ok (.getfield 15, 3) := by decide +kernel
theorem d6_10 : decode jdk_42_method_152_code 10 = .ok (.goto 4, 3) := by decide +kernel
theorem d6_14 : decode jdk_42_method_152_code 14 = .ok (.ireturn, 1) := by decide +kernel
theorem pn_6 : plainName "java/lang/String" = true := by first | (simp [plainName, overriddenIn]; done) | decide +kernel
theorem ef_coder0 (m : MethodId) (x0 : Addr) : entryFrame m #[(.ref x0)] 1 = mkF m 0 #[.val (.ref x0)] [] := by first | (simp [entryFrame, mkF, argsToLocals, Value.category]; done) | rfl
def Qcoder0 (Z : State) (a1 : Addr) (wC : Int32) (h0 : Heap) (n0 : Nat) (v : Option Value) (h : Heap) (L : List Loc) : Prop := v = (some (.int 0)) ∧ Fr n0 L ∧ h = h0
set_option maxRecDepth 65536 in
set_option maxHeartbeats 40000000 in
theorem rmcoder0 (l : Launch) (Z : State) (a0 : Array Value) (hw : ∀ d ∈ tables_1, d.before a0 Z = true) (ws : List Jvm.Cond) (a1 : Addr) (wC : Int32) (h0 : Heap) (n0 : Nat) (Z0 : n0 ≤ h0.size) (O0 : Old Z n0 h0) (qC : (own_SC Z wC)) (FC : Fld Z h0 a1 "java/lang/String" "coder" "B" (.int 0)) :
    MetFree l own_m7 (head1 (Jvm.Cond.code own_m7 jdk_42_method_152_code 1 (some .byte) :: ws) (own_r 0 0 0 0)) (fun a U => a = #[(.ref a1)] ∧ Z.Warmed39 U.vm ∧ U.heap = h0) (fun _ _ _ _ _ => True) (fun _ U o U' => ∃ v L, o = .returned v ∧ Qcoder0 Z a1 wC h0 n0 v U'.heap L ∧ FrameEnd U o U' L (own_r 0 0 0 0).cells (own_r 0 0 0 0).slots) := by
  refine MetFree.of_bodySF (plainFor_of_name pn_6) hisR ?_
  intro p e s m args below meth c s₁ Bd hml0 hP hK
  obtain ⟨rfl, hZ, hh⟩ := hP
  have hx := Bd.exec
  have hby := Bd.bytes
  have hml : c.maxLocals = 1 := hml0
  have hown0 := findClass_of_methodNamed Bd.named
  have hown : s.vm.findClass "java/lang/String" = some m.cls := hown0
  have hnm := (name_of_methodNamed Bd.named Bd.method).1
  have X0 : Stand p l e (own_r 0 0 0 0) s m #[(.ref a1)] below meth c s₁ [] 0 0 := Stand.of_body Bd
  have e0 : s₁.heap = h0 := by rw [← hh, Bd.state]; rfl
  have N0 := Fr.nil n0
  obtain ⟨S0, hS0⟩ : ∃ z, z = s₁.setTop (entryFrame m #[(.ref a1)] 1) := ⟨_, rfl⟩
  have pre0 : own_Go p e below S0 (s₁.setTop (mkF m 0 #[.val (.ref a1)] [])) := fun t k => by rw [hS0]; exact castTop (ef_coder0 m a1) k
  have fin : ∀ t, Steps p.tables e below S0 t → Steps p.tables e below (s₁.setTop (entryFrame m #[(.ref a1)] 1)) t := fun t k => by rw [hS0] at k; exact k
  obtain ⟨T1, X1, e1, st1⟩ := getS2 X0 hx hZ hown (host := "") (Or.inl (hw _ (own_w 37 rfl))) Via.refl e0 (qC.1.ext O0.2) (g := (mkF m 0 #[.val (.ref a1)] [])) rfl (hb hby d6_0)
  have pre2 : own_Go p e below S0 (T1.setTop (mkF m 7 #[.val (.ref a1)] [(.ref a1)])) := by
    intro t kt
    refine pre0 t ?_
    refine st1 _ ?_
    refine XS.ifNo X1.here hx rfl (hb hby d6_3) rfl ((if0 _ _).trans (feq qC.2).1) ?_
    refine XS.aloadN X1.here hx rfl (hb hby d6_6) rfl rfl ?_
    exact kt
  obtain ⟨T3, X3, e3, st3⟩ := getF X1 hx hZ hown (host := "") (Or.inl (hw _ (own_w 22 rfl))) Via.refl e1 FC (g := (mkF m 7 #[.val (.ref a1)] [(.ref a1)])) rfl rfl (hb hby d6_7)
  have pre4 : own_Go p e below S0 (T3.setTop (mkF m 14 #[.val (.ref a1)] [(.int 0)])) := by
    intro t kt
    refine pre2 t ?_
    refine st3 _ ?_
    refine XS.goto X3.here hx rfl (pc0 := 10) (pc' := 14) rfl (hb hby d6_10) (by decide) (by decide) ?_
    exact kt
  obtain ⟨fs, hr, hrun, hended, hW, hsame⟩ := X3.leave (v := some (.int 0)) (fun h => by rw [Bd.returns] at h; cases h)
  refine ⟨_, _, fin _ (pre4 _ ?_), hrun, hended, _, _, rfl, ?_, ⟨_, rfl⟩, hW, hsame.mono (by decide) (by decide)⟩
  · exact retN X3 hx (t := .byte) Bd.returns (by simp) (hb hby d6_14) hr
  · show Qcoder0 Z a1 wC h0 n0 _ T3.heap _
    rw [e3]
    exact ⟨rfl, N0, rfl⟩

theorem ef_coder1 (m : MethodId) (x0 : Addr) : entryFrame m #[(.ref x0)] 1 = mkF m 0 #[.val (.ref x0)] [] := by first | (simp [entryFrame, mkF, argsToLocals, Value.category]; done) | rfl
def Qcoder1 (Z : State) (a1 : Addr) (wC : Int32) (h0 : Heap) (n0 : Nat) (v : Option Value) (h : Heap) (L : List Loc) : Prop := v = (some (.int 1)) ∧ Fr n0 L ∧ h = h0
set_option maxRecDepth 65536 in
set_option maxHeartbeats 40000000 in
theorem rmcoder1 (l : Launch) (Z : State) (a0 : Array Value) (hw : ∀ d ∈ tables_1, d.before a0 Z = true) (ws : List Jvm.Cond) (a1 : Addr) (wC : Int32) (h0 : Heap) (n0 : Nat) (Z0 : n0 ≤ h0.size) (O0 : Old Z n0 h0) (qC : (own_SC Z wC)) (FC : Fld Z h0 a1 "java/lang/String" "coder" "B" (.int 1)) :
    MetFree l own_m7 (head1 (Jvm.Cond.code own_m7 jdk_42_method_152_code 1 (some .byte) :: ws) (own_r 0 0 0 0)) (fun a U => a = #[(.ref a1)] ∧ Z.Warmed39 U.vm ∧ U.heap = h0) (fun _ _ _ _ _ => True) (fun _ U o U' => ∃ v L, o = .returned v ∧ Qcoder1 Z a1 wC h0 n0 v U'.heap L ∧ FrameEnd U o U' L (own_r 0 0 0 0).cells (own_r 0 0 0 0).slots) := by
  refine MetFree.of_bodySF (plainFor_of_name pn_6) hisR ?_
  intro p e s m args below meth c s₁ Bd hml0 hP hK
  obtain ⟨rfl, hZ, hh⟩ := hP
  have hx := Bd.exec
  have hby := Bd.bytes
  have hml : c.maxLocals = 1 := hml0
  have hown0 := findClass_of_methodNamed Bd.named
  have hown : s.vm.findClass "java/lang/String" = some m.cls := hown0
  have hnm := (name_of_methodNamed Bd.named Bd.method).1
  have X0 : Stand p l e (own_r 0 0 0 0) s m #[(.ref a1)] below meth c s₁ [] 0 0 := Stand.of_body Bd
  have e0 : s₁.heap = h0 := by rw [← hh, Bd.state]; rfl
  have N0 := Fr.nil n0
  obtain ⟨S0, hS0⟩ : ∃ z, z = s₁.setTop (entryFrame m #[(.ref a1)] 1) := ⟨_, rfl⟩
  have pre0 : own_Go p e below S0 (s₁.setTop (mkF m 0 #[.val (.ref a1)] [])) := fun t k => by rw [hS0]; exact castTop (ef_coder1 m a1) k
  have fin : ∀ t, Steps p.tables e below S0 t → Steps p.tables e below (s₁.setTop (entryFrame m #[(.ref a1)] 1)) t := fun t k => by rw [hS0] at k; exact k
  obtain ⟨T1, X1, e1, st1⟩ := getS2 X0 hx hZ hown (host := "") (Or.inl (hw _ (own_w 37 rfl))) Via.refl e0 (qC.1.ext O0.2) (g := (mkF m 0 #[.val (.ref a1)] [])) rfl (hb hby d6_0)
  have pre2 : own_Go p e below S0 (T1.setTop (mkF m 7 #[.val (.ref a1)] [(.ref a1)])) := by
    intro t kt
    refine pre0 t ?_
    refine st1 _ ?_
    refine XS.ifNo X1.here hx rfl (hb hby d6_3) rfl ((if0 _ _).trans (feq qC.2).1) ?_
    refine XS.aloadN X1.here hx rfl (hb hby d6_6) rfl rfl ?_
    exact kt
  obtain ⟨T3, X3, e3, st3⟩ := getF X1 hx hZ hown (host := "") (Or.inl (hw _ (own_w 22 rfl))) Via.refl e1 FC (g := (mkF m 7 #[.val (.ref a1)] [(.ref a1)])) rfl rfl (hb hby d6_7)
  have pre4 : own_Go p e below S0 (T3.setTop (mkF m 14 #[.val (.ref a1)] [(.int 1)])) := by
    intro t kt
    refine pre2 t ?_
    refine st3 _ ?_
    refine XS.goto X3.here hx rfl (pc0 := 10) (pc' := 14) rfl (hb hby d6_10) (by decide) (by decide) ?_
    exact kt
  obtain ⟨fs, hr, hrun, hended, hW, hsame⟩ := X3.leave (v := some (.int 1)) (fun h => by rw [Bd.returns] at h; cases h)
  refine ⟨_, _, fin _ (pre4 _ ?_), hrun, hended, _, _, rfl, ?_, ⟨_, rfl⟩, hW, hsame.mono (by decide) (by decide)⟩
  · exact retN X3 hx (t := .byte) Bd.returns (by simp) (hb hby d6_14) hr
  · show Qcoder1 Z a1 wC h0 n0 _ T3.heap _
    rw [e3]
    exact ⟨rfl, N0, rfl⟩

theorem d5_0 : decode jdk_42_method_54_code 0 = .ok (.aload_n 0, 1) := by decide +kernel
theorem d5_1 : decode jdk_42_method_54_code 1 = .ok (.getfield 9, 3) := by decide +kernel
theorem d5_4 : decode jdk_42_method_54_code 4 = .ok (.arraylength, 1) := by decide +kernel
theorem d5_5 : decode jdk_42_method_54_code 5 = .ok (.aload_n 0, 1) := by decide +kernel
theorem d5_6 : decode jdk_42_method_54_code 6 = .ok (.invokevirtual 335, 3) := by decide +kernel
theorem d5_9 : decode jdk_42_method_54_code 9 = .ok (.ishr, 1) := by decide +kernel
theorem d5_10 : decode jdk_42_method_54_code 10 = .ok (.ireturn, 1) := by decide +kernel
theorem pn_5 : plainName "java/lang/String" = true := by first | (simp [plainName, overriddenIn]; done) | decide +kernel
theorem pd_1 : parseMethodDescriptor "()B" = some ⟨[], some .byte⟩ := by decide +kernel
theorem ef_length (m : MethodId) (x0 : Addr) : entryFrame m #[(.ref x0)] 1 = mkF m 0 #[.val (.ref x0)] [] := by first | (simp [entryFrame, mkF, argsToLocals, Value.category]; done) | rfl
def Qlength (Z : State) (a1 : Addr) (wC : Int32) (vb : Addr) (kb : ClassId) (cs : List Int32) (h0 : Heap) (n0 : Nat) (v : Option Value) (h : Heap) (L : List Loc) : Prop := v = (some (.int (own_len cs))) ∧ Fr n0 L ∧ h = h0
set_option maxRecDepth 65536 in
set_option maxHeartbeats 40000000 in
theorem rmlength (l : Launch) (Z : State) (a0 : Array Value) (hw : ∀ d ∈ tables_1, d.before a0 Z = true) (ws : List Jvm.Cond) (a1 : Addr) (wC : Int32) (vb : Addr) (kb : ClassId) (cs : List Int32) (h0 : Heap) (n0 : Nat) (Z0 : n0 ≤ h0.size) (O0 : Old Z n0 h0) (qC : (own_SC Z wC)) (hS : own_Str Z h0 a1 vb kb cs) (hn : (cs.length < 1000)) :
    MetFree l own_m9 (head1 (Jvm.Cond.code own_m9 jdk_42_method_54_code 1 (some .int) :: ws) (own_r 1 0 0 13)) (fun a U => a = #[(.ref a1)] ∧ Z.Warmed39 U.vm ∧ U.heap = h0) (fun _ _ _ _ _ => True) (fun _ U o U' => ∃ v L, o = .returned v ∧ Qlength Z a1 wC vb kb cs h0 n0 v U'.heap L ∧ FrameEnd U o U' L (own_r 1 0 0 13).cells (own_r 1 0 0 13).slots) := by
  refine MetFree.of_bodySF (plainFor_of_name pn_5) hisR ?_
  intro p e s m args below meth c s₁ Bd hml0 hP hK
  obtain ⟨rfl, hZ, hh⟩ := hP
  have hx := Bd.exec
  have hby := Bd.bytes
  have hml : c.maxLocals = 1 := hml0
  have hown0 := findClass_of_methodNamed Bd.named
  have hown : s.vm.findClass "java/lang/String" = some m.cls := hown0
  have hnm := (name_of_methodNamed Bd.named Bd.method).1
  have X0 : Stand p l e (own_r 1 0 0 13) s m #[(.ref a1)] below meth c s₁ [] 0 0 := Stand.of_body Bd
  have e0 : s₁.heap = h0 := by rw [← hh, Bd.state]; rfl
  have N0 := Fr.nil n0
  obtain ⟨S0, hS0⟩ : ∃ z, z = s₁.setTop (entryFrame m #[(.ref a1)] 1) := ⟨_, rfl⟩
  have pre0 : own_Go p e below S0 (s₁.setTop (mkF m 0 #[.val (.ref a1)] [])) := fun t k => by rw [hS0]; exact castTop (ef_length m a1) k
  have fin : ∀ t, Steps p.tables e below S0 t → Steps p.tables e below (s₁.setTop (entryFrame m #[(.ref a1)] 1)) t := fun t k => by rw [hS0] at k; exact k
  obtain ⟨oE, oV, ⟨oK, oL, oA⟩ | ⟨oK, oL, oA⟩⟩ := hS
  · have pre1 : own_Go p e below S0 (s₁.setTop (mkF m 1 #[.val (.ref a1)] [(.ref a1)])) := by
      intro t kt
      refine pre0 t ?_
      refine XS.aloadN X0.here hx rfl (hb hby d5_0) rfl rfl ?_
      exact kt
    obtain ⟨T2, X2, e2, st2⟩ := getF X0 hx hZ hown (host := "") (Or.inl (hw _ (own_w 21 rfl))) Via.refl e0 oV (g := (mkF m 1 #[.val (.ref a1)] [(.ref a1)])) rfl rfl (hb hby d5_1)
    have pre3 : own_Go p e below S0 (T2.setTop (mkF m 4 #[.val (.ref a1)] [(.ref vb)])) := by
      intro t kt
      refine pre1 t ?_
      refine st2 _ ?_
      exact kt
    obtain ⟨cl4, Ar4, -, Sz4, Ng4, -, -⟩ := id oA
    have pre5 : own_Go p e below S0 (T2.setTop (mkF m 6 #[.val (.ref a1)] [(.ref a1), (.int (own_len cs))])) := by
      intro t kt
      refine pre3 t ?_
      refine X2.arraylength hx (by rw [e2]; exact Ar4.1) (State.isArrayOf_alike hZ.alike Ar4.2.1) (g := (mkF m 4 #[.val (.ref a1)] [(.ref vb)])) rfl rfl (hb hby d5_4) _ ?_
      rw [len_of Sz4 Ng4]
      show Steps p.tables e below (T2.setTop (mkF m 5 #[.val (.ref a1)] [(.int (own_len cs))])) _
      refine XS.aloadN X2.here hx rfl (hb hby d5_5) rfl rfl ?_
      exact kt
    obtain ⟨cq6, kq6, qa6, qb6, qc6⟩ := isOf hZ e2 oE
    obtain ⟨_, _, ⟨T6, L6, k6, n6⟩, -, X6, ⟨Lc6, hQ6, l6, y6, z6⟩, st6⟩ := X2.virtualBack hx (y := own_m7) (z := own_m7) hown (mvT hZ (hw _ (own_w 32 rfl))) (mvT hZ (hw _ (own_w 33 rfl))) (notFace_of_selects (args := #[]) (mvT hZ (hw _ (own_w 35 rfl)))) (mvT hZ (hw _ (own_w 35 rfl))) (mvT hZ (hw _ (own_w 34 rfl))) (by decide) (backOf (W := 1) (rmcoder0 l Z a0 hw [] a1 wC h0 n0 Z0 O0 qC oK) hZ (hw _ (own_w 36 rfl)) (hw _ (own_w 4 rfl)) (by decide) (by decide)) qa6 qc6 (g := (mkF m 6 #[.val (.ref a1)] [(.ref a1), (.int (own_len cs))])) rfl (by rw [hml]; rfl) (Steps.refl _) (argsL := []) (rest := [(.int (own_len cs))]) (lenOf pd_1 rfl) rfl (by show 2 * 0 + _ ≤ _; exact Nat.le_of_eq rfl) (hb hby d5_6) (fun _ _ => ⟨rfl, e2, (by decide : 0 + 0 ≤ _), (by decide : 0 + 0 ≤ _)⟩)
    dsimp only [Pt.U, Pt.locs, Pt.cells, Pt.slots] at X6 l6 y6 z6 st6 hQ6
    subst l6 y6 z6
    obtain ⟨rfl, Nq6, eq6⟩ := hQ6
    have N6 := Fr.app N0 Nq6
    have pre7 : own_Go p e below S0 (T6.setTop (mkF m 10 #[.val (.ref a1)] [(.int ((own_len cs) >>> ((0 : Int32) &&& 31)))])) := by
      intro t kt
      refine pre5 t ?_
      refine st6.trans ?_
      show Steps p.tables e below (T6.setTop (mkF m 9 #[.val (.ref a1)] [(.int 0), (.int (own_len cs))])) _
      refine XS.ishr X6.here hx rfl (hb hby d5_9) rfl ?_
      exact kt
    obtain ⟨fs, hr, hrun, hended, hW, hsame⟩ := X6.leave (v := some (.int ((own_len cs) >>> ((0 : Int32) &&& 31)))) (fun h => by rw [Bd.returns] at h; cases h)
    refine ⟨_, _, fin _ (pre7 _ ?_), hrun, hended, _, _, rfl, ?_, ⟨_, rfl⟩, hW, hsame.mono (by decide) (by decide)⟩
    · exact retI X6 hx Bd.returns (hb hby d5_10) hr
    · show Qlength Z a1 wC vb kb cs h0 n0 _ T6.heap _
      rw [eq6]
      exact ⟨(congrArg (fun q => some (Value.int q)) (own_lenL cs)), N6, rfl⟩
  · have pre8 : own_Go p e below S0 (s₁.setTop (mkF m 1 #[.val (.ref a1)] [(.ref a1)])) := by
      intro t kt
      refine pre0 t ?_
      refine XS.aloadN X0.here hx rfl (hb hby d5_0) rfl rfl ?_
      exact kt
    obtain ⟨T9, X9, e9, st9⟩ := getF X0 hx hZ hown (host := "") (Or.inl (hw _ (own_w 21 rfl))) Via.refl e0 oV (g := (mkF m 1 #[.val (.ref a1)] [(.ref a1)])) rfl rfl (hb hby d5_1)
    have pre10 : own_Go p e below S0 (T9.setTop (mkF m 4 #[.val (.ref a1)] [(.ref vb)])) := by
      intro t kt
      refine pre8 t ?_
      refine st9 _ ?_
      exact kt
    obtain ⟨cl11, Ar11, -, Sz11, Ng11, -, -⟩ := id oA
    have pre12 : own_Go p e below S0 (T9.setTop (mkF m 6 #[.val (.ref a1)] [(.ref a1), (.int (own_len2 cs))])) := by
      intro t kt
      refine pre10 t ?_
      refine X9.arraylength hx (by rw [e9]; exact Ar11.1) (State.isArrayOf_alike hZ.alike Ar11.2.1) (g := (mkF m 4 #[.val (.ref a1)] [(.ref vb)])) rfl rfl (hb hby d5_4) _ ?_
      rw [len_of Sz11 Ng11]
      show Steps p.tables e below (T9.setTop (mkF m 5 #[.val (.ref a1)] [(.int (own_len2 cs))])) _
      refine XS.aloadN X9.here hx rfl (hb hby d5_5) rfl rfl ?_
      exact kt
    obtain ⟨cq13, kq13, qa13, qb13, qc13⟩ := isOf hZ e9 oE
    obtain ⟨_, _, ⟨T13, L13, k13, n13⟩, -, X13, ⟨Lc13, hQ13, l13, y13, z13⟩, st13⟩ := X9.virtualBack hx (y := own_m7) (z := own_m7) hown (mvT hZ (hw _ (own_w 32 rfl))) (mvT hZ (hw _ (own_w 33 rfl))) (notFace_of_selects (args := #[]) (mvT hZ (hw _ (own_w 35 rfl)))) (mvT hZ (hw _ (own_w 35 rfl))) (mvT hZ (hw _ (own_w 34 rfl))) (by decide) (backOf (W := 1) (rmcoder1 l Z a0 hw [] a1 wC h0 n0 Z0 O0 qC oK) hZ (hw _ (own_w 36 rfl)) (hw _ (own_w 4 rfl)) (by decide) (by decide)) qa13 qc13 (g := (mkF m 6 #[.val (.ref a1)] [(.ref a1), (.int (own_len2 cs))])) rfl (by rw [hml]; rfl) (Steps.refl _) (argsL := []) (rest := [(.int (own_len2 cs))]) (lenOf pd_1 rfl) rfl (by show 2 * 0 + _ ≤ _; exact Nat.le_of_eq rfl) (hb hby d5_6) (fun _ _ => ⟨rfl, e9, (by decide : 0 + 0 ≤ _), (by decide : 0 + 0 ≤ _)⟩)
    dsimp only [Pt.U, Pt.locs, Pt.cells, Pt.slots] at X13 l13 y13 z13 st13 hQ13
    subst l13 y13 z13
    obtain ⟨rfl, Nq13, eq13⟩ := hQ13
    have N13 := Fr.app N0 Nq13
    have pre14 : own_Go p e below S0 (T13.setTop (mkF m 10 #[.val (.ref a1)] [(.int ((own_len2 cs) >>> ((1 : Int32) &&& 31)))])) := by
      intro t kt
      refine pre12 t ?_
      refine st13.trans ?_
      show Steps p.tables e below (T13.setTop (mkF m 9 #[.val (.ref a1)] [(.int 1), (.int (own_len2 cs))])) _
      refine XS.ishr X13.here hx rfl (hb hby d5_9) rfl ?_
      exact kt
    obtain ⟨fs, hr, hrun, hended, hW, hsame⟩ := X13.leave (v := some (.int ((own_len2 cs) >>> ((1 : Int32) &&& 31)))) (fun h => by rw [Bd.returns] at h; cases h)
    refine ⟨_, _, fin _ (pre14 _ ?_), hrun, hended, _, _, rfl, ?_, ⟨_, rfl⟩, hW, hsame.mono (by decide) (by decide)⟩
    · exact retI X13 hx Bd.returns (hb hby d5_10) hr
    · show Qlength Z a1 wC vb kb cs h0 n0 _ T13.heap _
      rw [eq13]
      exact ⟨(congrArg (fun q => some (Value.int q)) (own_lenU cs hn)), N13, rfl⟩

theorem d8_0 : decode jdk_52_method_21_code 0 = .ok (.iconst 0, 1) := by decide +kernel
theorem d8_1 : decode jdk_52_method_21_code 1 = .ok (.istore 5, 2) := by decide +kernel
theorem d8_3 : decode jdk_52_method_21_code 3 = .ok (.iload 5, 2) := by decide +kernel
theorem d8_5 : decode jdk_52_method_21_code 5 = .ok (.iload 4, 2) := by decide +kernel
theorem d8_7 : decode jdk_52_method_21_code 7 = .ok (.if_icmp .ge 37, 3) := by decide +kernel
theorem d8_10 : decode jdk_52_method_21_code 10 = .ok (.aload_n 0, 1) := by decide +kernel
theorem d8_11 : decode jdk_52_method_21_code 11 = .ok (.iload_n 1, 1) := by decide +kernel
theorem d8_12 : decode jdk_52_method_21_code 12 = .ok (.caload, 1) := by decide +kernel
theorem d8_13 : decode jdk_52_method_21_code 13 = .ok (.istore 6, 2) := by decide +kernel
theorem d8_15 : decode jdk_52_method_21_code 15 = .ok (.iload 6, 2) := by decide +kernel
theorem d8_17 : decode jdk_52_method_21_code 17 = .ok (.sipush 255, 3) := by decide +kernel
theorem d8_20 : decode jdk_52_method_21_code 20 = .ok (.if_icmp .le 6, 3) := by decide +kernel
theorem d8_23 : decode jdk_52_method_21_code 23 = .ok (.iload 5, 2) := by decide +kernel
theorem d8_25 : decode jdk_52_method_21_code 25 = .ok (.ireturn, 1) := by decide +kernel
theorem d8_26 : decode jdk_52_method_21_code 26 = .ok (.aload_n 2, 1) := by decide +kernel
theorem d8_27 : decode jdk_52_method_21_code 27 = .ok (.iload_n 3, 1) := by decide +kernel
theorem d8_28 : decode jdk_52_method_21_code 28 = .ok (.iload 6, 2) := by decide +kernel
theorem d8_30 : decode jdk_52_method_21_code 30 = .ok (.i2b, 1) := by decide +kernel
theorem d8_31 : decode jdk_52_method_21_code 31 = .ok (.bastore, 1) := by decide +kernel
theorem d8_32 : decode jdk_52_method_21_code 32 = .ok (.iinc 1 1, 3) := by decide +kernel
theorem d8_35 : decode jdk_52_method_21_code 35 = .ok (.iinc 3 1, 3) := by decide +kernel
theorem d8_38 : decode jdk_52_method_21_code 38 = .ok (.iinc 5 1, 3) := by decide +kernel
theorem d8_41 : decode jdk_52_method_21_code 41 = .ok (.goto (-38), 3) := by decide +kernel
theorem d8_44 : decode jdk_52_method_21_code 44 = .ok (.iload 4, 2) := by decide +kernel
theorem d8_46 : decode jdk_52_method_21_code 46 = .ok (.ireturn, 1) := by decide +kernel
theorem pn_8 : plainName "java/lang/StringUTF16" = true := by first | (simp [plainName, overriddenIn]; done) | decide +kernel
theorem ef_cmp5_1 (m : MethodId) (x0 : Addr) (x2 : Addr) : entryFrame m #[(.ref x0), (.int 0), (.ref x2), (.int 0), (.int 1)] 7 = mkF m 0 #[.val (.ref x0), .val (.int 0), .val (.ref x2), .val (.int 0), .val (.int 1), .unset, .unset] [] := by first | (simp [entryFrame, mkF, argsToLocals, Value.category]; done) | rfl
def Qcmp5_1 (Z : State) (a1 : Addr) (a2 : Addr) (kc : ClassId) (kb : ClassId) (c0 : Int32) (h0 : Heap) (n0 : Nat) (v : Option Value) (h : Heap) (L : List Loc) : Prop := ∃ r : Int32, v = (some (.int r)) ∧ Fr n0 L ∧ Keep h0 h [a2] ∧ ((r = (1 : Int32) ∧ own_Lat [c0] ∧ Arv Z h a2 kb .byte (1 : Int32) [(.int (nar .byte (c0.toInt8.toInt32)))] (.int 0)) ∨ (r = (0 : Int32) ∧ (255 : Int32) < c0))
set_option maxRecDepth 65536 in
set_option maxHeartbeats 40000000 in
theorem rmcmp5_1 (l : Launch) (Z : State) (a0 : Array Value) (hw : ∀ d ∈ tables_1, d.before a0 Z = true) (ws : List Jvm.Cond) (a1 : Addr) (a2 : Addr) (kc : ClassId) (kb : ClassId) (c0 : Int32) (h0 : Heap) (n0 : Nat) (Z0 : n0 ≤ h0.size) (VC : Arv Z h0 a1 kc .char (1 : Int32) [(.int c0)] (.int 0)) (g2 : n0 ≤ a2) (VB : Arv Z h0 a2 kb .byte (1 : Int32) [(.int 0)] (.int 0)) (n12 : a1 ≠ a2) :
    MetFree l own_m15 (head1 (Jvm.Cond.code own_m15 jdk_52_method_21_code 7 (some .int) :: ws) (own_r 0 0 0 0)) (fun a U => a = #[(.ref a1), (.int 0), (.ref a2), (.int 0), (.int 1)] ∧ Z.Warmed39 U.vm ∧ U.heap = h0) (fun _ _ _ _ _ => True) (fun _ U o U' => ∃ v L, o = .returned v ∧ Qcmp5_1 Z a1 a2 kc kb c0 h0 n0 v U'.heap L ∧ FrameEnd U o U' L (own_r 0 0 0 0).cells (own_r 0 0 0 0).slots) := by
  refine MetFree.of_bodySF (plainFor_of_name pn_8) hisR ?_
  intro p e s m args below meth c s₁ Bd hml0 hP hK
  obtain ⟨rfl, hZ, hh⟩ := hP
  have hx := Bd.exec
  have hby := Bd.bytes
  have hml : c.maxLocals = 7 := hml0
  have hown0 := findClass_of_methodNamed Bd.named
  have hown : s.vm.findClass "java/lang/StringUTF16" = some m.cls := hown0
  have hnm := (name_of_methodNamed Bd.named Bd.method).1
  have X0 : Stand p l e (own_r 0 0 0 0) s m #[(.ref a1), (.int 0), (.ref a2), (.int 0), (.int 1)] below meth c s₁ [] 0 0 := Stand.of_body Bd
  have e0 : s₁.heap = h0 := by rw [← hh, Bd.state]; rfl
  have N0 := Fr.nil n0
  obtain ⟨S0, hS0⟩ : ∃ z, z = s₁.setTop (entryFrame m #[(.ref a1), (.int 0), (.ref a2), (.int 0), (.int 1)] 7) := ⟨_, rfl⟩
  have pre0 : own_Go p e below S0 (s₁.setTop (mkF m 0 #[.val (.ref a1), .val (.int 0), .val (.ref a2), .val (.int 0), .val (.int 1), .unset, .unset] [])) := fun t k => by rw [hS0]; exact castTop (ef_cmp5_1 m a1 a2) k
  have fin : ∀ t, Steps p.tables e below S0 t → Steps p.tables e below (s₁.setTop (entryFrame m #[(.ref a1), (.int 0), (.ref a2), (.int 0), (.int 1)] 7)) t := fun t k => by rw [hS0] at k; exact k
  have kc0 : Keep h0 h0 [a2] := Keep.refl _ _
  have pre1 : own_Go p e below S0 (s₁.setTop (mkF m 12 #[.val (.ref a1), .val (.int 0), .val (.ref a2), .val (.int 0), .val (.int 1), .val (.int 0), .unset] [(.int 0), (.ref a1)])) := by
    intro t kt
    refine pre0 t ?_
    refine XS.iconst X0.here hx rfl (hb hby d8_0) ?_
    refine XS.istore X0.here hx rfl (hb hby d8_1) rfl (l' := #[.val (.ref a1), .val (.int 0), .val (.ref a2), .val (.int 0), .val (.int 1), .val (.int 0), .unset]) rfl ?_
    refine XS.iload X0.here hx rfl (hb hby d8_3) rfl ?_
    refine XS.iload X0.here hx rfl (hb hby d8_5) rfl ?_
    refine XS.icmpNo X0.here hx rfl (hb hby d8_7) rfl (tlt (by decide : (0 : Int32) < (1 : Int32))).2.1 ?_
    refine XS.aloadN X0.here hx rfl (hb hby d8_10) rfl rfl ?_
    show Steps p.tables e below (s₁.setTop (mkF m 11 #[.val (.ref a1), .val (.int 0), .val (.ref a2), .val (.int 0), .val (.int 1), .val (.int 0), .unset] [(.ref a1)])) _
    refine XS.iloadN X0.here hx rfl (hb hby d8_11) rfl ?_
    exact kt
  obtain ⟨cl2, Ar2, -, Sz2, -, Hs2, -⟩ := id VC
  have hin2 : ¬ ((0 : Int32) < 0 ∨ cl2.slots.size ≤ ((0 : Int32)).toNatClampNeg) := inb_of Sz2 ⟨by decide, by decide⟩
  have pre4 : own_Go p e below S0 (s₁.setTop (mkF m 20 #[.val (.ref a1), .val (.int 0), .val (.ref a2), .val (.int 0), .val (.int 1), .val (.int 0), .val (.int c0)] [(.int 255), (.int c0)])) := by
    intro t kt
    refine pre1 t ?_
    refine X0.caload hx (j := (0 : Int32)) (v := (.int c0)) (by rw [e0]; exact Ar2.1) (State.isArrayOf_alike hZ.alike Ar2.2.1) Ar2.2.2 hin2 (Hs2.at hin2 rfl) (g := (mkF m 12 #[.val (.ref a1), .val (.int 0), .val (.ref a2), .val (.int 0), .val (.int 1), .val (.int 0), .unset] [(.int 0), (.ref a1)])) rfl rfl (hb hby d8_12) _ ?_
    refine XS.istore X0.here hx rfl (hb hby d8_13) rfl (l' := #[.val (.ref a1), .val (.int 0), .val (.ref a2), .val (.int 0), .val (.int 1), .val (.int 0), .val (.int c0)]) rfl ?_
    refine XS.iload X0.here hx rfl (hb hby d8_15) rfl ?_
    refine XS.sipush X0.here hx rfl (hb hby d8_17) ?_
    exact kt
  by_cases hc3 : (255 : Int32) < c0
  · have pre5 : own_Go p e below S0 (s₁.setTop (mkF m 25 #[.val (.ref a1), .val (.int 0), .val (.ref a2), .val (.int 0), .val (.int 1), .val (.int 0), .val (.int c0)] [(.int 0)])) := by
      intro t kt
      refine pre4 t ?_
      refine XS.icmpNo X0.here hx rfl (hb hby d8_20) rfl (tlt hc3).2.2.2 ?_
      refine XS.iload X0.here hx rfl (hb hby d8_23) rfl ?_
      exact kt
    obtain ⟨fs, hr, hrun, hended, hW, hsame⟩ := X0.leave (v := some (.int 0)) (fun h => by rw [Bd.returns] at h; cases h)
    refine ⟨_, _, fin _ (pre5 _ ?_), hrun, hended, _, _, rfl, ?_, ⟨_, rfl⟩, hW, hsame.mono (by decide) (by decide)⟩
    · exact retI X0 hx Bd.returns (hb hby d8_25) hr
    · show Qcmp5_1 Z a1 a2 kc kb c0 h0 n0 _ s₁.heap _
      rw [e0]
      exact ⟨(0 : Int32), rfl, N0, kc0, (Or.inr (⟨rfl, hc3⟩))⟩
  · have pre6 : own_Go p e below S0 (s₁.setTop (mkF m 31 #[.val (.ref a1), .val (.int 0), .val (.ref a2), .val (.int 0), .val (.int 1), .val (.int 0), .val (.int c0)] [(.int (c0.toInt8.toInt32)), (.int 0), (.ref a2)])) := by
      intro t kt
      refine pre4 t ?_
      refine XS.icmpYes X0.here hx rfl (pc0 := 20) (pc' := 26) rfl (hb hby d8_20) rfl (flt hc3).2.2.2 (by decide) (by decide) ?_
      refine XS.aloadN X0.here hx rfl (hb hby d8_26) rfl rfl ?_
      refine XS.iloadN X0.here hx rfl (hb hby d8_27) rfl ?_
      refine XS.iload X0.here hx rfl (hb hby d8_28) rfl ?_
      refine XS.i2b X0.here hx rfl (hb hby d8_30) rfl ?_
      exact kt
    obtain ⟨cl7, Ar7, q7, Sz7, Ng7, Hs7, Gt7⟩ := id VB
    have hin7 : ¬ ((0 : Int32) < 0 ∨ cl7.slots.size ≤ ((0 : Int32)).toNatClampNeg) := inb_of Sz7 ⟨by decide, by decide⟩
    obtain ⟨T7, h7, X7, e7, W7, st7⟩ := stB X0 hx hZ e0 Ar7 (j := (0 : Int32)) hin7 (g := (mkF m 31 #[.val (.ref a1), .val (.int 0), .val (.ref a2), .val (.int 0), .val (.int 1), .val (.int 0), .val (.int c0)] [(.int (c0.toInt8.toInt32)), (.int 0), (.ref a2)])) rfl rfl (hb hby d8_31)
    have N7 := Fr.snoc X7 N0 g2
    have zs8 : n0 ≤ h7.size := Nat.le_trans Z0 (Keep.of_wr W7).1
    have kc9 : Keep h0 h7 [a2] := kc0.wr W7 (Or.inl (List.mem_of_getElem? (i := 0) rfl))
    have V7 : Arv Z h7 a2 kb .byte (1 : Int32) [(.int (nar .byte (c0.toInt8.toInt32)))] (.int 0) := Arv.set Ar7 q7 Sz7 Ng7 Hs7 Gt7 (fits_nar_byte _) W7 0 rfl (Nat.le_of_ble_eq_true rfl)
    have pre10 : own_Go p e below S0 (T7.setTop (mkF m 46 #[.val (.ref a1), .val (.int 1), .val (.ref a2), .val (.int 1), .val (.int 1), .val (.int 1), .val (.int c0)] [(.int 1)])) := by
      intro t kt
      refine pre6 t ?_
      refine st7 _ ?_
      refine XS.iinc X7.here hx rfl (hb hby d8_32) rfl (l' := #[.val (.ref a1), .val (.int 1), .val (.ref a2), .val (.int 0), .val (.int 1), .val (.int 0), .val (.int c0)]) rfl ?_
      refine XS.iinc X7.here hx rfl (hb hby d8_35) rfl (l' := #[.val (.ref a1), .val (.int 1), .val (.ref a2), .val (.int 1), .val (.int 1), .val (.int 0), .val (.int c0)]) rfl ?_
      refine XS.iinc X7.here hx rfl (hb hby d8_38) rfl (l' := #[.val (.ref a1), .val (.int 1), .val (.ref a2), .val (.int 1), .val (.int 1), .val (.int 1), .val (.int c0)]) rfl ?_
      refine XS.goto X7.here hx rfl (pc0 := 41) (pc' := 3) rfl (hb hby d8_41) (by decide) (by decide) ?_
      refine XS.iload X7.here hx rfl (hb hby d8_3) rfl ?_
      show Steps p.tables e below (T7.setTop (mkF m 5 #[.val (.ref a1), .val (.int 1), .val (.ref a2), .val (.int 1), .val (.int 1), .val (.int 1), .val (.int c0)] [(.int 1)])) _
      refine XS.iload X7.here hx rfl (hb hby d8_5) rfl ?_
      refine XS.icmpYes X7.here hx rfl (pc0 := 7) (pc' := 44) rfl (hb hby d8_7) rfl (flt (by decide : ¬ ((1 : Int32) < (1 : Int32)))).2.1 (by decide) (by decide) ?_
      refine XS.iload X7.here hx rfl (hb hby d8_44) rfl ?_
      exact kt
    obtain ⟨fs, hr, hrun, hended, hW, hsame⟩ := X7.leave (v := some (.int 1)) (fun h => by rw [Bd.returns] at h; cases h)
    refine ⟨_, _, fin _ (pre10 _ ?_), hrun, hended, _, _, rfl, ?_, ⟨_, rfl⟩, hW, hsame.mono (by decide) (by decide)⟩
    · exact retI X7 hx Bd.returns (hb hby d8_46) hr
    · show Qcmp5_1 Z a1 a2 kc kb c0 h0 n0 _ T7.heap _
      rw [e7]
      exact ⟨(1 : Int32), rfl, N7, kc9, (Or.inl ⟨rfl, ⟨⟨(own_fitAt VC 0 (by decide) rfl).1, own_ltOf hc3⟩, trivial⟩, V7⟩)⟩

theorem d19_0 : decode jdk_52_method_3_code 0 = .ok (.iload_n 0, 1) := by decide +kernel
theorem d19_1 : decode jdk_52_method_3_code 1 = .ok (.ifCond .ge 11, 3) := by decide +kernel
theorem d19_12 : decode jdk_52_method_3_code 12 = .ok (.iload_n 0, 1) := by decide +kernel
theorem d19_13 : decode jdk_52_method_3_code 13 = .ok (.ldc 20, 2) := by decide +kernel
theorem d19_15 : decode jdk_52_method_3_code 15 = .ok (.if_icmp .lt 40, 3) := by decide +kernel
theorem d19_55 : decode jdk_52_method_3_code 55 = .ok (.iload_n 0, 1) := by decide +kernel
theorem d19_56 : decode jdk_52_method_3_code 56 = .ok (.iconst 1, 1) := by decide +kernel
theorem d19_57 : decode jdk_52_method_3_code 57 = .ok (.ishl, 1) := by decide +kernel
theorem d19_58 : decode jdk_52_method_3_code 58 = .ok (.ireturn, 1) := by decide +kernel
theorem pn_19 : plainName "java/lang/StringUTF16" = true := by first | (simp [plainName, overriddenIn]; done) | decide +kernel
theorem ef_nlen (m : MethodId) (x0 : Int32) : entryFrame m #[(.int x0)] 1 = mkF m 0 #[.val (.int x0)] [] := by first | (simp [entryFrame, mkF, argsToLocals, Value.category]; done) | rfl
def own_nbl (p1 : Int32) : Int32 := (p1 <<< ((1 : Int32) &&& 31))
def Qnlen (Z : State) (p1 : Int32) (h0 : Heap) (n0 : Nat) (v : Option Value) (h : Heap) (L : List Loc) : Prop := v = (some (.int (own_nbl p1))) ∧ Fr n0 L ∧ h = h0
set_option maxRecDepth 65536 in
set_option maxHeartbeats 40000000 in
theorem rmnlen (l : Launch) (Z : State) (a0 : Array Value) (hw : ∀ d ∈ tables_1, d.before a0 Z = true) (ws : List Jvm.Cond) (p1 : Int32) (h0 : Heap) (n0 : Nat) (Z0 : n0 ≤ h0.size) (h1 : (¬ p1 < (0 : Int32))) (h2 : (p1 < (1073741823 : Int32))) :
    MetFree l own_m19 (head1 (Jvm.Cond.code own_m19 jdk_52_method_3_code 1 (some .int) :: ws) (own_r 0 0 0 0)) (fun a U => a = #[(.int p1)] ∧ Z.Warmed39 U.vm ∧ U.heap = h0) (fun _ _ _ _ _ => True) (fun _ U o U' => ∃ v L, o = .returned v ∧ Qnlen Z p1 h0 n0 v U'.heap L ∧ FrameEnd U o U' L (own_r 0 0 0 0).cells (own_r 0 0 0 0).slots) := by
  refine MetFree.of_bodySF (plainFor_of_name pn_19) hisR ?_
  intro p e s m args below meth c s₁ Bd hml0 hP hK
  obtain ⟨rfl, hZ, hh⟩ := hP
  have hx := Bd.exec
  have hby := Bd.bytes
  have hml : c.maxLocals = 1 := hml0
  have hown0 := findClass_of_methodNamed Bd.named
  have hown : s.vm.findClass "java/lang/StringUTF16" = some m.cls := hown0
  have hnm := (name_of_methodNamed Bd.named Bd.method).1
  have X0 : Stand p l e (own_r 0 0 0 0) s m #[(.int p1)] below meth c s₁ [] 0 0 := Stand.of_body Bd
  have e0 : s₁.heap = h0 := by rw [← hh, Bd.state]; rfl
  have N0 := Fr.nil n0
  obtain ⟨S0, hS0⟩ : ∃ z, z = s₁.setTop (entryFrame m #[(.int p1)] 1) := ⟨_, rfl⟩
  have pre0 : own_Go p e below S0 (s₁.setTop (mkF m 0 #[.val (.int p1)] [])) := fun t k => by rw [hS0]; exact castTop (ef_nlen m p1) k
  have fin : ∀ t, Steps p.tables e below S0 t → Steps p.tables e below (s₁.setTop (entryFrame m #[(.int p1)] 1)) t := fun t k => by rw [hS0] at k; exact k
  have pre1 : own_Go p e below S0 (s₁.setTop (mkF m 58 #[.val (.int p1)] [(.int (p1 <<< ((1 : Int32) &&& 31)))])) := by
    intro t kt
    refine pre0 t ?_
    refine XS.iloadN X0.here hx rfl (hb hby d19_0) rfl ?_
    refine XS.ifYes X0.here hx rfl (pc0 := 1) (pc' := 12) rfl (hb hby d19_1) rfl ((if0 _ _).trans (flt h1).2.1) (by decide) (by decide) ?_
    refine XS.iloadN X0.here hx rfl (hb hby d19_12) rfl ?_
    refine X0.ldcInt hx hown (mvT hZ (hw _ (own_w 86 rfl))) (g := (mkF m 13 #[.val (.int p1)] [(.int p1)])) rfl (hb hby d19_13) _ ?_
    refine XS.icmpYes X0.here hx rfl (pc0 := 15) (pc' := 55) rfl (hb hby d19_15) rfl (tlt h2).1 (by decide) (by decide) ?_
    refine XS.iloadN X0.here hx rfl (hb hby d19_55) rfl ?_
    show Steps p.tables e below (s₁.setTop (mkF m 56 #[.val (.int p1)] [(.int p1)])) _
    refine XS.iconst X0.here hx rfl (hb hby d19_56) ?_
    refine XS.ishl X0.here hx rfl (hb hby d19_57) rfl ?_
    exact kt
  obtain ⟨fs, hr, hrun, hended, hW, hsame⟩ := X0.leave (v := some (.int (p1 <<< ((1 : Int32) &&& 31)))) (fun h => by rw [Bd.returns] at h; cases h)
  refine ⟨_, _, fin _ (pre1 _ ?_), hrun, hended, _, _, rfl, ?_, ⟨_, rfl⟩, hW, hsame.mono (by decide) (by decide)⟩
  · exact retI X0 hx Bd.returns (hb hby d19_58) hr
  · show Qnlen Z p1 h0 n0 _ s₁.heap _
    rw [e0]
    exact ⟨(by show some _ = some _; rw [own_nbl]), N0, rfl⟩

theorem d18_0 : decode jdk_52_method_2_code 0 = .ok (.iload_n 0, 1) := by decide +kernel
theorem d18_1 : decode jdk_52_method_2_code 1 = .ok (.invokestatic 11, 3) := by decide +kernel
theorem d18_4 : decode jdk_52_method_2_code 4 = .ok (.newarray .byte, 2) := by decide +kernel
theorem d18_6 : decode jdk_52_method_2_code 6 = .ok (.areturn, 1) := by decide +kernel
theorem pn_18 : plainName "java/lang/StringUTF16" = true := by first | (simp [plainName, overriddenIn]; done) | decide +kernel
theorem pd_2 : parseMethodDescriptor "(I)I" = some ⟨[.int], some .int⟩ := by decide +kernel
theorem ef_nfor_1 (m : MethodId)  : entryFrame m #[(.int 1)] 1 = mkF m 0 #[.val (.int 1)] [] := by first | (simp [entryFrame, mkF, argsToLocals, Value.category]; done) | rfl
def Qnfor_1 (Z : State)  (h0 : Heap) (n0 : Nat) (v : Option Value) (h : Heap) (L : List Loc) : Prop := ∃ b : Addr, ∃ kb : ClassId, v = (some (.ref b)) ∧ Fr n0 L ∧ Keep h0 h [] ∧ h0.size ≤ b ∧ Arv Z h b kb .byte (2 : Int32) [(.int 0), (.int 0)] (.int 0)
set_option maxRecDepth 65536 in
set_option maxHeartbeats 40000000 in
theorem rmnfor_1 (l : Launch) (Z : State) (a0 : Array Value) (hw : ∀ d ∈ tables_1, d.before a0 Z = true) (ws : List Jvm.Cond)  (h0 : Heap) (n0 : Nat) (Z0 : n0 ≤ h0.size) :
    MetFree l own_m18 (head1 (Jvm.Cond.code own_m18 jdk_52_method_2_code 1 (some (.array .byte)) :: ws) (own_r 1 1 2 12)) (fun a U => a = #[(.int 1)] ∧ Z.Warmed39 U.vm ∧ U.heap = h0) (fun _ _ _ _ _ => True) (fun _ U o U' => ∃ v L, o = .returned v ∧ Qnfor_1 Z  h0 n0 v U'.heap L ∧ FrameEnd U o U' L (own_r 1 1 2 12).cells (own_r 1 1 2 12).slots) := by
  refine MetFree.of_bodySF (plainFor_of_name pn_18) hisR ?_
  intro p e s m args below meth c s₁ Bd hml0 hP hK
  obtain ⟨rfl, hZ, hh⟩ := hP
  have hx := Bd.exec
  have hby := Bd.bytes
  have hml : c.maxLocals = 1 := hml0
  have hown0 := findClass_of_methodNamed Bd.named
  have hown : s.vm.findClass "java/lang/StringUTF16" = some m.cls := hown0
  have hnm := (name_of_methodNamed Bd.named Bd.method).1
  have X0 : Stand p l e (own_r 1 1 2 12) s m #[(.int 1)] below meth c s₁ [] 0 0 := Stand.of_body Bd
  have e0 : s₁.heap = h0 := by rw [← hh, Bd.state]; rfl
  have N0 := Fr.nil n0
  obtain ⟨S0, hS0⟩ : ∃ z, z = s₁.setTop (entryFrame m #[(.int 1)] 1) := ⟨_, rfl⟩
  have pre0 : own_Go p e below S0 (s₁.setTop (mkF m 0 #[.val (.int 1)] [])) := fun t k => by rw [hS0]; exact castTop (ef_nfor_1 m ) k
  have fin : ∀ t, Steps p.tables e below S0 t → Steps p.tables e below (s₁.setTop (entryFrame m #[(.int 1)] 1)) t := fun t k => by rw [hS0] at k; exact k
  have kc0 : Keep h0 h0 [] := Keep.refl _ _
  have pre1 : own_Go p e below S0 (s₁.setTop (mkF m 1 #[.val (.int 1)] [(.int 1)])) := by
    intro t kt
    refine pre0 t ?_
    refine XS.iloadN X0.here hx rfl (hb hby d18_0) rfl ?_
    exact kt
  obtain ⟨_, _, ⟨T2, L2, k2, n2⟩, -, X2, ⟨Lc2, hQ2, l2, y2, z2⟩, st2⟩ := Jvm.LawKit.callS X0 hx (y := own_m19) hown (mvT hZ (hw _ (own_w 83 rfl))) (mvT hZ (hw _ (own_w 84 rfl))) (mvT hZ (hw _ (own_w 40 rfl))) (mvT hZ (hw _ (own_w 85 rfl))) (by decide) (backOf (W := 0) (rmnlen l Z a0 hw [] (1 : Int32) h0 n0 Z0 (by decide) (by decide)) hZ (hw _ (own_w 85 rfl)) (hw _ (own_w 40 rfl)) (by decide) (by decide)) (g := (mkF m 1 #[.val (.int 1)] [(.int 1)])) rfl (by rw [hml]; rfl) (argsL := [(.int 1)]) (rest := []) (lenOf pd_2 rfl) rfl (by show 2 * 0 + _ ≤ _; exact Nat.le_of_eq rfl) (hb hby d18_1) (fun _ _ => ⟨rfl, e0, (by decide : 0 + 0 ≤ _), (by decide : 0 + 0 ≤ _)⟩)
  dsimp only [Pt.U, Pt.locs, Pt.cells, Pt.slots] at X2 l2 y2 z2 st2 hQ2
  subst l2 y2 z2
  obtain ⟨rfl, Nq2, eq2⟩ := hQ2
  have N2 := Fr.app N0 Nq2
  have pre3 : own_Go p e below S0 (T2.setTop (mkF m 4 #[.val (.int 1)] [(.int (own_nbl (1 : Int32)))])) := by
    intro t kt
    refine pre1 t ?_
    refine st2 _ ?_
    show Steps p.tables e below (T2.setTop (mkF m 4 #[.val (.int 1)] [(.int (own_nbl (1 : Int32)))])) _
    exact kt
  have pre4 : own_Go p e below S0 (T2.setTop (mkF m 4 #[.val (.int 1)] [(.int 2)])) := by
    intro t kt
    refine pre3 t ?_
    rw [(by decide : (own_nbl (1 : Int32)) = (2 : Int32))]
    exact kt
  obtain ⟨T5, h5, k5, X5, e5, E5, A5, st5⟩ := newP X2 hx hZ (hw _ (own_w 16 rfl)) eq2 (g := (mkF m 4 #[.val (.int 1)] [(.int 2)])) rfl (hb hby d18_4) rfl (by decide) (cap := 2) (by decide) (by decide) (by decide) (by decide)
  obtain ⟨b5, g5⟩ : ∃ z, z = h0.size := ⟨_, rfl⟩
  rw [← g5] at A5 st5
  have ge6 : n0 ≤ b5 := Nat.le_trans Z0 (Nat.le_of_eq g5.symm)
  have sz7 : h0.size ≤ b5 := Nat.le_trans kc0.1 (Nat.le_of_eq g5.symm)
  have zs8 : n0 ≤ h5.size := Nat.le_trans Z0 E5.1
  have kc9 : Keep h0 h5 [] := kc0.ext E5
  have V5 : Arv Z h5 b5 k5 .byte (2 : Int32) [(.int 0), (.int 0)] (.int 0) := (Arv.new A5 (by decide)).pad (pad_rep [] (.int 0) 2)
  have pre10 : own_Go p e below S0 (T5.setTop (mkF m 6 #[.val (.int 1)] [(.ref b5)])) := by
    intro t kt
    refine pre4 t ?_
    refine st5 _ ?_
    exact kt
  obtain ⟨fs, hr, hrun, hended, hW, hsame⟩ := X5.leave (v := some (.ref b5)) (fun h => by rw [Bd.returns] at h; cases h)
  refine ⟨_, _, fin _ (pre10 _ ?_), hrun, hended, _, _, rfl, ?_, ⟨_, rfl⟩, hW, hsame.mono (by decide) (by decide)⟩
  · jvm_step X5.here [X5.here.top, hx, (hb hby d18_6), X5.method', Bd.returns, Value.isRef, FieldType.isReference]
    first | (intro acts; rw [hr _ acts rfl rfl rfl]) | rw [hr _ _ rfl rfl rfl]
    exact Steps.refl _
  · show Qnfor_1 Z  h0 n0 _ T5.heap _
    rw [e5]
    exact ⟨b5, k5, rfl, N2, kc9, sz7, V5⟩

theorem d20_0 : decode jdk_52_method_4_code 0 = .ok (.getstatic 44, 3) := by decide +kernel
theorem d20_3 : decode jdk_52_method_4_code 3 = .ok (.ifCond .ne 25, 3) := by decide +kernel
theorem d20_28 : decode jdk_52_method_4_code 28 = .ok (.iload_n 1, 1) := by decide +kernel
theorem d20_29 : decode jdk_52_method_4_code 29 = .ok (.iconst 1, 1) := by decide +kernel
theorem d20_30 : decode jdk_52_method_4_code 30 = .ok (.ishl, 1) := by decide +kernel
theorem d20_31 : decode jdk_52_method_4_code 31 = .ok (.istore_n 1, 1) := by decide +kernel
theorem d20_32 : decode jdk_52_method_4_code 32 = .ok (.aload_n 0, 1) := by decide +kernel
theorem d20_33 : decode jdk_52_method_4_code 33 = .ok (.iload_n 1, 1) := by decide +kernel
theorem d20_34 : decode jdk_52_method_4_code 34 = .ok (.iinc 1 1, 3) := by decide +kernel
theorem d20_37 : decode jdk_52_method_4_code 37 = .ok (.iload_n 2, 1) := by decide +kernel
theorem d20_38 : decode jdk_52_method_4_code 38 = .ok (.getstatic 59, 3) := by decide +kernel
theorem d20_41 : decode jdk_52_method_4_code 41 = .ok (.ishr, 1) := by decide +kernel
theorem d20_42 : decode jdk_52_method_4_code 42 = .ok (.i2b, 1) := by decide +kernel
theorem d20_43 : decode jdk_52_method_4_code 43 = .ok (.bastore, 1) := by decide +kernel
theorem d20_44 : decode jdk_52_method_4_code 44 = .ok (.aload_n 0, 1) := by decide +kernel
theorem d20_45 : decode jdk_52_method_4_code 45 = .ok (.iload_n 1, 1) := by decide +kernel
theorem d20_46 : decode jdk_52_method_4_code 46 = .ok (.iload_n 2, 1) := by decide +kernel
theorem d20_47 : decode jdk_52_method_4_code 47 = .ok (.getstatic 63, 3) := by decide +kernel
theorem d20_50 : decode jdk_52_method_4_code 50 = .ok (.ishr, 1) := by decide +kernel
theorem d20_51 : decode jdk_52_method_4_code 51 = .ok (.i2b, 1) := by decide +kernel
theorem d20_52 : decode jdk_52_method_4_code 52 = .ok (.bastore, 1) := by decide +kernel
theorem d20_53 : decode jdk_52_method_4_code 53 = .ok (.return_, 1) := by decide +kernel
theorem pn_20 : plainName "java/lang/StringUTF16" = true := by first | (simp [plainName, overriddenIn]; done) | decide +kernel
theorem ef_putc_0_2 (m : MethodId) (x0 : Addr) (x2 : Int32) : entryFrame m #[(.ref x0), (.int 0), (.int x2)] 3 = mkF m 0 #[.val (.ref x0), .val (.int 0), .val (.int x2)] [] := by first | (simp [entryFrame, mkF, argsToLocals, Value.category]; done) | rfl
def Qputc_0_2 (Z : State) (a1 : Addr) (p3 : Int32) (k1 : ClassId) (u0 : Value) (u1 : Value) (h0 : Heap) (n0 : Nat) (v : Option Value) (h : Heap) (L : List Loc) : Prop := v = none ∧ Fr n0 L ∧ Keep h0 h [a1] ∧ Arv Z h a1 k1 .byte (2 : Int32) [(.int (nar .byte ((p3 >>> ((0 : Int32) &&& 31)).toInt8.toInt32))), (.int (nar .byte ((p3 >>> ((8 : Int32) &&& 31)).toInt8.toInt32)))] (.int 0)
set_option maxRecDepth 65536 in
set_option maxHeartbeats 40000000 in
theorem rmputc_0_2 (l : Launch) (Z : State) (a0 : Array Value) (hw : ∀ d ∈ tables_1, d.before a0 Z = true) (ws : List Jvm.Cond) (a1 : Addr) (p3 : Int32) (k1 : ClassId) (u0 : Value) (u1 : Value) (h0 : Heap) (n0 : Nat) (Z0 : n0 ≤ h0.size) (O0 : Old Z n0 h0) (qU : (own_SU Z)) (g1 : n0 ≤ a1) (V1 : Arv Z h0 a1 k1 .byte (2 : Int32) [u0, u1] (.int 0)) :
    MetFree l own_m20 (head1 (Jvm.Cond.code own_m20 jdk_52_method_4_code 3 none :: ws) (own_r 0 0 0 0)) (fun a U => a = #[(.ref a1), (.int 0), (.int p3)] ∧ Z.Warmed39 U.vm ∧ U.heap = h0) (fun _ _ _ _ _ => True) (fun _ U o U' => ∃ v L, o = .returned v ∧ Qputc_0_2 Z a1 p3 k1 u0 u1 h0 n0 v U'.heap L ∧ FrameEnd U o U' L (own_r 0 0 0 0).cells (own_r 0 0 0 0).slots) := by
  refine MetFree.of_bodySF (plainFor_of_name pn_20) hisR ?_
  intro p e s m args below meth c s₁ Bd hml0 hP hK
  obtain ⟨rfl, hZ, hh⟩ := hP
  have hx := Bd.exec
  have hby := Bd.bytes
  have hml : c.maxLocals = 3 := hml0
  have hown0 := findClass_of_methodNamed Bd.named
  have hown : s.vm.findClass "java/lang/StringUTF16" = some m.cls := hown0
  have hnm := (name_of_methodNamed Bd.named Bd.method).1
  have X0 : Stand p l e (own_r 0 0 0 0) s m #[(.ref a1), (.int 0), (.int p3)] below meth c s₁ [] 0 0 := Stand.of_body Bd
  have e0 : s₁.heap = h0 := by rw [← hh, Bd.state]; rfl
  have N0 := Fr.nil n0
  obtain ⟨S0, hS0⟩ : ∃ z, z = s₁.setTop (entryFrame m #[(.ref a1), (.int 0), (.int p3)] 3) := ⟨_, rfl⟩
  have pre0 : own_Go p e below S0 (s₁.setTop (mkF m 0 #[.val (.ref a1), .val (.int 0), .val (.int p3)] [])) := fun t k => by rw [hS0]; exact castTop (ef_putc_0_2 m a1 p3) k
  have fin : ∀ t, Steps p.tables e below S0 t → Steps p.tables e below (s₁.setTop (entryFrame m #[(.ref a1), (.int 0), (.int p3)] 3)) t := fun t k => by rw [hS0] at k; exact k
  have kc0 : Keep h0 h0 [a1] := Keep.refl _ _
  obtain ⟨T1, X1, e1, st1⟩ := getS2 X0 hx hZ hown (host := "") (Or.inl (hw _ (own_w 90 rfl))) Via.refl e0 (qU.1.ext O0.2) (g := (mkF m 0 #[.val (.ref a1), .val (.int 0), .val (.int p3)] [])) rfl (hb hby d20_0)
  have pre2 : own_Go p e below S0 (T1.setTop (mkF m 38 #[.val (.ref a1), .val (.int 1), .val (.int p3)] [(.int p3), (.int 0), (.ref a1)])) := by
    intro t kt
    refine pre0 t ?_
    refine st1 _ ?_
    refine XS.ifYes X1.here hx rfl (pc0 := 3) (pc' := 28) rfl (hb hby d20_3) rfl ((if0 _ _).trans (feq (by decide : ¬ ((1 : Int32) = (0 : Int32)))).2) (by decide) (by decide) ?_
    refine XS.iloadN X1.here hx rfl (hb hby d20_28) rfl ?_
    refine XS.iconst X1.here hx rfl (hb hby d20_29) ?_
    refine XS.ishl X1.here hx rfl (hb hby d20_30) rfl ?_
    refine XS.istoreN X1.here hx rfl (hb hby d20_31) rfl (l' := #[.val (.ref a1), .val (.int 0), .val (.int p3)]) rfl ?_
    show Steps p.tables e below (T1.setTop (mkF m 32 #[.val (.ref a1), .val (.int 0), .val (.int p3)] [])) _
    refine XS.aloadN X1.here hx rfl (hb hby d20_32) rfl rfl ?_
    refine XS.iloadN X1.here hx rfl (hb hby d20_33) rfl ?_
    refine XS.iinc X1.here hx rfl (hb hby d20_34) rfl (l' := #[.val (.ref a1), .val (.int 1), .val (.int p3)]) rfl ?_
    refine XS.iloadN X1.here hx rfl (hb hby d20_37) rfl ?_
    exact kt
  obtain ⟨T3, X3, e3, st3⟩ := getS2 X1 hx hZ hown (host := "") (Or.inl (hw _ (own_w 91 rfl))) Via.refl e1 (qU.2.1.ext O0.2) (g := (mkF m 38 #[.val (.ref a1), .val (.int 1), .val (.int p3)] [(.int p3), (.int 0), (.ref a1)])) rfl (hb hby d20_38)
  have pre4 : own_Go p e below S0 (T3.setTop (mkF m 43 #[.val (.ref a1), .val (.int 1), .val (.int p3)] [(.int ((p3 >>> ((0 : Int32) &&& 31)).toInt8.toInt32)), (.int 0), (.ref a1)])) := by
    intro t kt
    refine pre2 t ?_
    refine st3 _ ?_
    refine XS.ishr X3.here hx rfl (hb hby d20_41) rfl ?_
    refine XS.i2b X3.here hx rfl (hb hby d20_42) rfl ?_
    exact kt
  obtain ⟨cl5, Ar5, q5, Sz5, Ng5, Hs5, Gt5⟩ := id V1
  have hin5 : ¬ ((0 : Int32) < 0 ∨ cl5.slots.size ≤ ((0 : Int32)).toNatClampNeg) := inb_of Sz5 ⟨by decide, by decide⟩
  obtain ⟨T5, h5, X5, e5, W5, st5⟩ := stB X3 hx hZ e3 Ar5 (j := (0 : Int32)) hin5 (g := (mkF m 43 #[.val (.ref a1), .val (.int 1), .val (.int p3)] [(.int ((p3 >>> ((0 : Int32) &&& 31)).toInt8.toInt32)), (.int 0), (.ref a1)])) rfl rfl (hb hby d20_43)
  have N5 := Fr.snoc X5 N0 g1
  have zs6 : n0 ≤ h5.size := Nat.le_trans Z0 (Keep.of_wr W5).1
  have kc7 : Keep h0 h5 [a1] := kc0.wr W5 (Or.inl (List.mem_of_getElem? (i := 0) rfl))
  have V5 : Arv Z h5 a1 k1 .byte (2 : Int32) [(.int (nar .byte ((p3 >>> ((0 : Int32) &&& 31)).toInt8.toInt32))), u1] (.int 0) := Arv.set Ar5 q5 Sz5 Ng5 Hs5 Gt5 (fits_nar_byte _) W5 0 rfl (Nat.le_of_ble_eq_true rfl)
  have pre8 : own_Go p e below S0 (T5.setTop (mkF m 47 #[.val (.ref a1), .val (.int 1), .val (.int p3)] [(.int p3), (.int 1), (.ref a1)])) := by
    intro t kt
    refine pre4 t ?_
    refine st5 _ ?_
    refine XS.aloadN X5.here hx rfl (hb hby d20_44) rfl rfl ?_
    refine XS.iloadN X5.here hx rfl (hb hby d20_45) rfl ?_
    refine XS.iloadN X5.here hx rfl (hb hby d20_46) rfl ?_
    exact kt
  have f9 : Old Z n0 h5 := (O0.wr W5 g1)
  obtain ⟨T10, X10, e10, st10⟩ := getS2 X5 hx hZ hown (host := "") (Or.inl (hw _ (own_w 92 rfl))) Via.refl e5 (qU.2.2.ext f9.2) (g := (mkF m 47 #[.val (.ref a1), .val (.int 1), .val (.int p3)] [(.int p3), (.int 1), (.ref a1)])) rfl (hb hby d20_47)
  have pre11 : own_Go p e below S0 (T10.setTop (mkF m 52 #[.val (.ref a1), .val (.int 1), .val (.int p3)] [(.int ((p3 >>> ((8 : Int32) &&& 31)).toInt8.toInt32)), (.int 1), (.ref a1)])) := by
    intro t kt
    refine pre8 t ?_
    refine st10 _ ?_
    refine XS.ishr X10.here hx rfl (hb hby d20_50) rfl ?_
    refine XS.i2b X10.here hx rfl (hb hby d20_51) rfl ?_
    exact kt
  obtain ⟨cl12, Ar12, q12, Sz12, Ng12, Hs12, Gt12⟩ := id V5
  have hin12 : ¬ ((1 : Int32) < 0 ∨ cl12.slots.size ≤ ((1 : Int32)).toNatClampNeg) := inb_of Sz12 ⟨by decide, by decide⟩
  obtain ⟨T12, h12, X12, e12, W12, st12⟩ := stB X10 hx hZ e10 Ar12 (j := (1 : Int32)) hin12 (g := (mkF m 52 #[.val (.ref a1), .val (.int 1), .val (.int p3)] [(.int ((p3 >>> ((8 : Int32) &&& 31)).toInt8.toInt32)), (.int 1), (.ref a1)])) rfl rfl (hb hby d20_52)
  have N12 := Fr.snoc X12 N5 g1
  have zs13 : n0 ≤ h12.size := Nat.le_trans zs6 (Keep.of_wr W12).1
  have kc14 : Keep h0 h12 [a1] := kc7.wr W12 (Or.inl (List.mem_of_getElem? (i := 0) rfl))
  have V12 : Arv Z h12 a1 k1 .byte (2 : Int32) [(.int (nar .byte ((p3 >>> ((0 : Int32) &&& 31)).toInt8.toInt32))), (.int (nar .byte ((p3 >>> ((8 : Int32) &&& 31)).toInt8.toInt32)))] (.int 0) := Arv.set Ar12 q12 Sz12 Ng12 Hs12 Gt12 (fits_nar_byte _) W12 1 rfl (Nat.le_of_ble_eq_true rfl)
  have pre15 : own_Go p e below S0 (T12.setTop (mkF m 53 #[.val (.ref a1), .val (.int 1), .val (.int p3)] [])) := by
    intro t kt
    refine pre11 t ?_
    refine st12 _ ?_
    exact kt
  obtain ⟨fs, hr, hrun, hended, hW, hsame⟩ := X12.leave (v := none) (fun _ => rfl)
  refine ⟨_, _, fin _ (pre15 _ ?_), hrun, hended, _, _, rfl, ?_, ⟨_, rfl⟩, hW, hsame.mono (by decide) (by decide)⟩
  · exact X12.returnOut hx Bd.returns (hb hby d20_53) hr
  · show Qputc_0_2 Z a1 p3 k1 u0 u1 h0 n0 _ T12.heap _
    rw [e12]
    exact ⟨rfl, N12, kc14, V12⟩

theorem d17_0 : decode jdk_52_method_14_code 0 = .ok (.iload_n 2, 1) := by decide +kernel
theorem d17_1 : decode jdk_52_method_14_code 1 = .ok (.invokestatic 107, 3) := by decide +kernel
theorem d17_4 : decode jdk_52_method_14_code 4 = .ok (.astore_n 3, 1) := by decide +kernel
theorem d17_5 : decode jdk_52_method_14_code 5 = .ok (.iconst 0, 1) := by decide +kernel
theorem d17_6 : decode jdk_52_method_14_code 6 = .ok (.istore 4, 2) := by decide +kernel
theorem d17_8 : decode jdk_52_method_14_code 8 = .ok (.iload 4, 2) := by decide +kernel
theorem d17_10 : decode jdk_52_method_14_code 10 = .ok (.iload_n 2, 1) := by decide +kernel
theorem d17_11 : decode jdk_52_method_14_code 11 = .ok (.if_icmp .ge 21, 3) := by decide +kernel
theorem d17_14 : decode jdk_52_method_14_code 14 = .ok (.aload_n 3, 1) := by decide +kernel
theorem d17_15 : decode jdk_52_method_14_code 15 = .ok (.iload 4, 2) := by decide +kernel
theorem d17_17 : decode jdk_52_method_14_code 17 = .ok (.aload_n 0, 1) := by decide +kernel
theorem d17_18 : decode jdk_52_method_14_code 18 = .ok (.iload_n 1, 1) := by decide +kernel
theorem d17_19 : decode jdk_52_method_14_code 19 = .ok (.caload, 1) := by decide +kernel
theorem d17_20 : decode jdk_52_method_14_code 20 = .ok (.invokestatic 111, 3) := by decide +kernel
theorem d17_23 : decode jdk_52_method_14_code 23 = .ok (.iinc 1 1, 3) := by decide +kernel
theorem d17_26 : decode jdk_52_method_14_code 26 = .ok (.iinc 4 1, 3) := by decide +kernel
theorem d17_29 : decode jdk_52_method_14_code 29 = .ok (.goto (-21), 3) := by decide +kernel
theorem d17_32 : decode jdk_52_method_14_code 32 = .ok (.aload_n 3, 1) := by decide +kernel
theorem d17_33 : decode jdk_52_method_14_code 33 = .ok (.areturn, 1) := by decide +kernel
theorem pn_17 : plainName "java/lang/StringUTF16" = true := by first | (simp [plainName, overriddenIn]; done) | decide +kernel
theorem pd_3 : parseMethodDescriptor "(I)[B" = some ⟨[.int], some (.array .byte)⟩ := by decide +kernel
theorem pd_4 : parseMethodDescriptor "([BII)V" = some ⟨[(.array .byte), .int, .int], none⟩ := by decide +kernel
theorem ef_toB_1 (m : MethodId) (x0 : Addr) : entryFrame m #[(.ref x0), (.int 0), (.int 1)] 5 = mkF m 0 #[.val (.ref x0), .val (.int 0), .val (.int 1), .unset, .unset] [] := by first | (simp [entryFrame, mkF, argsToLocals, Value.category]; done) | rfl
def QtoB_1 (Z : State) (a1 : Addr) (kc : ClassId) (c0 : Int32) (h0 : Heap) (n0 : Nat) (v : Option Value) (h : Heap) (L : List Loc) : Prop := ∃ b : Addr, ∃ kb : ClassId, v = (some (.ref b)) ∧ Fr n0 L ∧ Keep h0 h [] ∧ h0.size ≤ b ∧ Arv Z h b kb .byte (2 : Int32) [(.int (nar .byte ((c0 >>> ((0 : Int32) &&& 31)).toInt8.toInt32))), (.int (nar .byte ((c0 >>> ((8 : Int32) &&& 31)).toInt8.toInt32)))] (.int 0)
set_option maxRecDepth 65536 in
set_option maxHeartbeats 40000000 in
theorem rmtoB_1 (l : Launch) (Z : State) (a0 : Array Value) (hw : ∀ d ∈ tables_1, d.before a0 Z = true) (ws : List Jvm.Cond) (a1 : Addr) (kc : ClassId) (c0 : Int32) (h0 : Heap) (n0 : Nat) (Z0 : n0 ≤ h0.size) (O0 : Old Z n0 h0) (qU : (own_SU Z)) (VC : Arv Z h0 a1 kc .char (1 : Int32) [(.int c0)] (.int 0)) :
    MetFree l own_m21 (head1 (Jvm.Cond.code own_m21 jdk_52_method_14_code 5 (some (.array .byte)) :: ws) (own_r 2 1 2 24)) (fun a U => a = #[(.ref a1), (.int 0), (.int 1)] ∧ Z.Warmed39 U.vm ∧ U.heap = h0) (fun _ _ _ _ _ => True) (fun _ U o U' => ∃ v L, o = .returned v ∧ QtoB_1 Z a1 kc c0 h0 n0 v U'.heap L ∧ FrameEnd U o U' L (own_r 2 1 2 24).cells (own_r 2 1 2 24).slots) := by
  refine MetFree.of_bodySF (plainFor_of_name pn_17) hisR ?_
  intro p e s m args below meth c s₁ Bd hml0 hP hK
  obtain ⟨rfl, hZ, hh⟩ := hP
  have hx := Bd.exec
  have hby := Bd.bytes
  have hml : c.maxLocals = 5 := hml0
  have hown0 := findClass_of_methodNamed Bd.named
  have hown : s.vm.findClass "java/lang/StringUTF16" = some m.cls := hown0
  have hnm := (name_of_methodNamed Bd.named Bd.method).1
  have X0 : Stand p l e (own_r 2 1 2 24) s m #[(.ref a1), (.int 0), (.int 1)] below meth c s₁ [] 0 0 := Stand.of_body Bd
  have e0 : s₁.heap = h0 := by rw [← hh, Bd.state]; rfl
  have N0 := Fr.nil n0
  obtain ⟨S0, hS0⟩ : ∃ z, z = s₁.setTop (entryFrame m #[(.ref a1), (.int 0), (.int 1)] 5) := ⟨_, rfl⟩
  have pre0 : own_Go p e below S0 (s₁.setTop (mkF m 0 #[.val (.ref a1), .val (.int 0), .val (.int 1), .unset, .unset] [])) := fun t k => by rw [hS0]; exact castTop (ef_toB_1 m a1) k
  have fin : ∀ t, Steps p.tables e below S0 t → Steps p.tables e below (s₁.setTop (entryFrame m #[(.ref a1), (.int 0), (.int 1)] 5)) t := fun t k => by rw [hS0] at k; exact k
  have kc0 : Keep h0 h0 [] := Keep.refl _ _
  have pre1 : own_Go p e below S0 (s₁.setTop (mkF m 1 #[.val (.ref a1), .val (.int 0), .val (.int 1), .unset, .unset] [(.int 1)])) := by
    intro t kt
    refine pre0 t ?_
    refine XS.iloadN X0.here hx rfl (hb hby d17_0) rfl ?_
    exact kt
  obtain ⟨_, _, ⟨T2, L2, k2, n2⟩, -, X2, ⟨Lc2, hQ2, l2, y2, z2⟩, st2⟩ := Jvm.LawKit.callS X0 hx (y := own_m18) hown (mvT hZ (hw _ (own_w 80 rfl))) (mvT hZ (hw _ (own_w 81 rfl))) (mvT hZ (hw _ (own_w 40 rfl))) (mvT hZ (hw _ (own_w 82 rfl))) (by decide) (backOf (W := 0) (rmnfor_1 l Z a0 hw []  h0 n0 Z0 ) hZ (hw _ (own_w 82 rfl)) (hw _ (own_w 40 rfl)) (by decide) (by decide)) (g := (mkF m 1 #[.val (.ref a1), .val (.int 0), .val (.int 1), .unset, .unset] [(.int 1)])) rfl (by rw [hml]; rfl) (argsL := [(.int 1)]) (rest := []) (lenOf pd_3 rfl) rfl (by show 2 * 0 + _ ≤ _; exact Nat.le_of_eq rfl) (hb hby d17_1) (fun _ _ => ⟨rfl, e0, (by decide : 0 + 1 ≤ _), (by decide : 0 + 2 ≤ _)⟩)
  dsimp only [Pt.U, Pt.locs, Pt.cells, Pt.slots] at X2 l2 y2 z2 st2 hQ2
  subst l2 y2 z2
  obtain ⟨b3, kb4, rfl, Nq2, K2, g5, g6⟩ := hQ2
  have N2 := Fr.app N0 Nq2
  have ne7 : a1 ≠ b3 := Nat.ne_of_lt (Nat.lt_of_lt_of_le VC.lt g5)
  have ge8 : n0 ≤ b3 := Nat.le_trans Z0 g5
  have sz9 : h0.size ≤ b3 := Nat.le_trans kc0.1 g5
  have zs10 : n0 ≤ T2.heap.size := Nat.le_trans Z0 K2.1
  have kc11 : Keep h0 T2.heap [] := kc0.trans K2 all0
  have pre12 : own_Go p e below S0 (T2.setTop (mkF m 19 #[.val (.ref a1), .val (.int 0), .val (.int 1), .val (.ref b3), .val (.int 0)] [(.int 0), (.ref a1), (.int 0), (.ref b3)])) := by
    intro t kt
    refine pre1 t ?_
    refine st2 _ ?_
    show Steps p.tables e below (T2.setTop (mkF m 4 #[.val (.ref a1), .val (.int 0), .val (.int 1), .unset, .unset] [(.ref b3)])) _
    refine XS.astoreN X2.here hx rfl (hb hby d17_4) rfl rfl (l' := #[.val (.ref a1), .val (.int 0), .val (.int 1), .val (.ref b3), .unset]) rfl ?_
    refine XS.iconst X2.here hx rfl (hb hby d17_5) ?_
    refine XS.istore X2.here hx rfl (hb hby d17_6) rfl (l' := #[.val (.ref a1), .val (.int 0), .val (.int 1), .val (.ref b3), .val (.int 0)]) rfl ?_
    refine XS.iload X2.here hx rfl (hb hby d17_8) rfl ?_
    refine XS.iloadN X2.here hx rfl (hb hby d17_10) rfl ?_
    show Steps p.tables e below (T2.setTop (mkF m 11 #[.val (.ref a1), .val (.int 0), .val (.int 1), .val (.ref b3), .val (.int 0)] [(.int 1), (.int 0)])) _
    refine XS.icmpNo X2.here hx rfl (hb hby d17_11) rfl (tlt (by decide : (0 : Int32) < (1 : Int32))).2.1 ?_
    refine XS.aloadN X2.here hx rfl (hb hby d17_14) rfl rfl ?_
    refine XS.iload X2.here hx rfl (hb hby d17_15) rfl ?_
    refine XS.aloadN X2.here hx rfl (hb hby d17_17) rfl rfl ?_
    refine XS.iloadN X2.here hx rfl (hb hby d17_18) rfl ?_
    exact kt
  have f13 : Arv Z T2.heap a1 kc .char (1 : Int32) [(.int c0)] (.int 0) := (VC.keep K2 nin0)
  obtain ⟨cl14, Ar14, -, Sz14, -, Hs14, -⟩ := id f13
  have hin14 : ¬ ((0 : Int32) < 0 ∨ cl14.slots.size ≤ ((0 : Int32)).toNatClampNeg) := inb_of Sz14 ⟨by decide, by decide⟩
  have pre15 : own_Go p e below S0 (T2.setTop (mkF m 20 #[.val (.ref a1), .val (.int 0), .val (.int 1), .val (.ref b3), .val (.int 0)] [(.int c0), (.int 0), (.ref b3)])) := by
    intro t kt
    refine pre12 t ?_
    refine X2.caload hx (j := (0 : Int32)) (v := (.int c0)) Ar14.1 (State.isArrayOf_alike hZ.alike Ar14.2.1) Ar14.2.2 hin14 (Hs14.at hin14 rfl) (g := (mkF m 19 #[.val (.ref a1), .val (.int 0), .val (.int 1), .val (.ref b3), .val (.int 0)] [(.int 0), (.ref a1), (.int 0), (.ref b3)])) rfl rfl (hb hby d17_19) _ ?_
    exact kt
  have f16 : Old Z n0 T2.heap := (O0.keep K2 all0)
  obtain ⟨_, _, ⟨T17, L17, k17, n17⟩, -, X17, ⟨Lc17, hQ17, l17, y17, z17⟩, st17⟩ := Jvm.LawKit.callS X2 hx (y := own_m20) hown (mvT hZ (hw _ (own_w 87 rfl))) (mvT hZ (hw _ (own_w 88 rfl))) (mvT hZ (hw _ (own_w 40 rfl))) (mvT hZ (hw _ (own_w 89 rfl))) (by decide) (backOf (W := 0) (rmputc_0_2 l Z a0 hw [] b3 c0 kb4 (.int 0) (.int 0) T2.heap n0 zs10 f16 qU ge8 g6) hZ (hw _ (own_w 89 rfl)) (hw _ (own_w 40 rfl)) (by decide) (by decide)) (g := (mkF m 20 #[.val (.ref a1), .val (.int 0), .val (.int 1), .val (.ref b3), .val (.int 0)] [(.int c0), (.int 0), (.ref b3)])) rfl (by rw [hml]; rfl) (argsL := [(.ref b3), (.int 0), (.int c0)]) (rest := []) (lenOf pd_4 rfl) rfl (by show 2 * 0 + _ ≤ _; exact Nat.le_of_eq rfl) (hb hby d17_20) (fun _ _ => ⟨rfl, rfl, (by decide : 1 + 0 ≤ _), (by decide : 2 + 0 ≤ _)⟩)
  dsimp only [Pt.U, Pt.locs, Pt.cells, Pt.slots] at X17 l17 y17 z17 st17 hQ17
  subst l17 y17 z17
  obtain ⟨rfl, Nq17, K17, g18⟩ := hQ17
  have N17 := Fr.app N2 Nq17
  have zs19 : n0 ≤ T17.heap.size := Nat.le_trans zs10 K17.1
  have kc20 : Keep h0 T17.heap [] := kc11.trans K17 (allS (Or.inr sz9) all0)
  have pre21 : own_Go p e below S0 (T17.setTop (mkF m 33 #[.val (.ref a1), .val (.int 1), .val (.int 1), .val (.ref b3), .val (.int 1)] [(.ref b3)])) := by
    intro t kt
    refine pre15 t ?_
    refine st17 _ ?_
    show Steps p.tables e below (T17.setTop (mkF m 23 #[.val (.ref a1), .val (.int 0), .val (.int 1), .val (.ref b3), .val (.int 0)] [])) _
    refine XS.iinc X17.here hx rfl (hb hby d17_23) rfl (l' := #[.val (.ref a1), .val (.int 1), .val (.int 1), .val (.ref b3), .val (.int 0)]) rfl ?_
    refine XS.iinc X17.here hx rfl (hb hby d17_26) rfl (l' := #[.val (.ref a1), .val (.int 1), .val (.int 1), .val (.ref b3), .val (.int 1)]) rfl ?_
    refine XS.goto X17.here hx rfl (pc0 := 29) (pc' := 8) rfl (hb hby d17_29) (by decide) (by decide) ?_
    refine XS.iload X17.here hx rfl (hb hby d17_8) rfl ?_
    refine XS.iloadN X17.here hx rfl (hb hby d17_10) rfl ?_
    show Steps p.tables e below (T17.setTop (mkF m 11 #[.val (.ref a1), .val (.int 1), .val (.int 1), .val (.ref b3), .val (.int 1)] [(.int 1), (.int 1)])) _
    refine XS.icmpYes X17.here hx rfl (pc0 := 11) (pc' := 32) rfl (hb hby d17_11) rfl (flt (by decide : ¬ ((1 : Int32) < (1 : Int32)))).2.1 (by decide) (by decide) ?_
    refine XS.aloadN X17.here hx rfl (hb hby d17_32) rfl rfl ?_
    exact kt
  obtain ⟨fs, hr, hrun, hended, hW, hsame⟩ := X17.leave (v := some (.ref b3)) (fun h => by rw [Bd.returns] at h; cases h)
  refine ⟨_, _, fin _ (pre21 _ ?_), hrun, hended, _, _, rfl, ?_, ⟨_, rfl⟩, hW, hsame.mono (by decide) (by decide)⟩
  · jvm_step X17.here [X17.here.top, hx, (hb hby d17_33), X17.method', Bd.returns, Value.isRef, FieldType.isReference]
    first | (intro acts; rw [hr _ acts rfl rfl rfl]) | rw [hr _ _ rfl rfl rfl]
    exact Steps.refl _
  · show QtoB_1 Z a1 kc c0 h0 n0 _ T17.heap _
    exact ⟨b3, kb4, rfl, N17, kc20, sz9, g18⟩

theorem d21_0 : decode jdk_52_method_5_code 0 = .ok (.getstatic 44, 3) := by decide +kernel
theorem d21_3 : decode jdk_52_method_5_code 3 = .ok (.ifCond .ne 25, 3) := by decide +kernel
theorem d21_28 : decode jdk_52_method_5_code 28 = .ok (.iload_n 1, 1) := by decide +kernel
theorem d21_29 : decode jdk_52_method_5_code 29 = .ok (.iconst 1, 1) := by decide +kernel
theorem d21_30 : decode jdk_52_method_5_code 30 = .ok (.ishl, 1) := by decide +kernel
theorem d21_31 : decode jdk_52_method_5_code 31 = .ok (.istore_n 1, 1) := by decide +kernel
theorem d21_32 : decode jdk_52_method_5_code 32 = .ok (.aload_n 0, 1) := by decide +kernel
theorem d21_33 : decode jdk_52_method_5_code 33 = .ok (.iload_n 1, 1) := by decide +kernel
theorem d21_34 : decode jdk_52_method_5_code 34 = .ok (.iinc 1 1, 3) := by decide +kernel
theorem d21_37 : decode jdk_52_method_5_code 37 = .ok (.baload, 1) := by decide +kernel
theorem d21_38 : decode jdk_52_method_5_code 38 = .ok (.sipush 255, 3) := by decide +kernel
theorem d21_41 : decode jdk_52_method_5_code 41 = .ok (.iand, 1) := by decide +kernel
theorem d21_42 : decode jdk_52_method_5_code 42 = .ok (.getstatic 59, 3) := by decide +kernel
theorem d21_45 : decode jdk_52_method_5_code 45 = .ok (.ishl, 1) := by decide +kernel
theorem d21_46 : decode jdk_52_method_5_code 46 = .ok (.aload_n 0, 1) := by decide +kernel
theorem d21_47 : decode jdk_52_method_5_code 47 = .ok (.iload_n 1, 1) := by decide +kernel
theorem d21_48 : decode jdk_52_method_5_code 48 = .ok (.baload, 1) := by decide +kernel
theorem d21_49 : decode jdk_52_method_5_code 49 = .ok (.sipush 255, 3) := by decide +kernel
theorem d21_52 : decode jdk_52_method_5_code 52 = .ok (.iand, 1) := by decide +kernel
theorem d21_53 : decode jdk_52_method_5_code 53 = .ok (.getstatic 63, 3) := by decide +kernel
theorem d21_56 : decode jdk_52_method_5_code 56 = .ok (.ishl, 1) := by decide +kernel
theorem d21_57 : decode jdk_52_method_5_code 57 = .ok (.ior, 1) := by decide +kernel
theorem d21_58 : decode jdk_52_method_5_code 58 = .ok (.i2c, 1) := by decide +kernel
theorem d21_59 : decode jdk_52_method_5_code 59 = .ok (.ireturn, 1) := by decide +kernel
theorem pn_21 : plainName "java/lang/StringUTF16" = true := by first | (simp [plainName, overriddenIn]; done) | decide +kernel
theorem ef_getc (m : MethodId) (x0 : Addr) (x1 : Int32) : entryFrame m #[(.ref x0), (.int x1)] 2 = mkF m 0 #[.val (.ref x0), .val (.int x1)] [] := by first | (simp [entryFrame, mkF, argsToLocals, Value.category]; done) | rfl
def Qgetc (Z : State) (a1 : Addr) (p2 : Int32) (k1 : ClassId) (z1 : Int32) (vs : List Value) (d1 : Value) (b0 : Int32) (b1 : Int32) (m0 : Nat) (m1 : Nat) (h0 : Heap) (n0 : Nat) (v : Option Value) (h : Heap) (L : List Loc) : Prop := v = (some (.int (own_gc b0 b1))) ∧ Fr n0 L ∧ h = h0
set_option maxRecDepth 65536 in
set_option maxHeartbeats 40000000 in
theorem rmgetc (l : Launch) (Z : State) (a0 : Array Value) (hw : ∀ d ∈ tables_1, d.before a0 Z = true) (ws : List Jvm.Cond) (a1 : Addr) (p2 : Int32) (k1 : ClassId) (z1 : Int32) (vs : List Value) (d1 : Value) (b0 : Int32) (b1 : Int32) (m0 : Nat) (m1 : Nat) (h0 : Heap) (n0 : Nat) (Z0 : n0 ≤ h0.size) (O0 : Old Z n0 h0) (qU : (own_SU Z)) (V1 : Arv Z h0 a1 k1 .byte z1 vs d1) (g0a : (¬ (p2 <<< ((1 : Int32) &&& 31)) < (0 : Int32))) (g0b : ((p2 <<< ((1 : Int32) &&& 31)) < z1)) (hm0 : ((p2 <<< ((1 : Int32) &&& 31)).toNatClampNeg = m0)) (hb0 : (vs.getD m0 d1 = .int b0)) (g1a : (¬ ((p2 <<< ((1 : Int32) &&& 31)) + (1 : Int32)) < (0 : Int32))) (g1b : (((p2 <<< ((1 : Int32) &&& 31)) + (1 : Int32)) < z1)) (hm1 : (((p2 <<< ((1 : Int32) &&& 31)) + (1 : Int32)).toNatClampNeg = m1)) (hb1 : (vs.getD m1 d1 = .int b1)) :
    MetFree l own_m16 (head1 (Jvm.Cond.code own_m16 jdk_52_method_5_code 2 (some .char) :: ws) (own_r 0 0 0 0)) (fun a U => a = #[(.ref a1), (.int p2)] ∧ Z.Warmed39 U.vm ∧ U.heap = h0) (fun _ _ _ _ _ => True) (fun _ U o U' => ∃ v L, o = .returned v ∧ Qgetc Z a1 p2 k1 z1 vs d1 b0 b1 m0 m1 h0 n0 v U'.heap L ∧ FrameEnd U o U' L (own_r 0 0 0 0).cells (own_r 0 0 0 0).slots) := by
  refine MetFree.of_bodySF (plainFor_of_name pn_21) hisR ?_
  intro p e s m args below meth c s₁ Bd hml0 hP hK
  obtain ⟨rfl, hZ, hh⟩ := hP
  have hx := Bd.exec
  have hby := Bd.bytes
  have hml : c.maxLocals = 2 := hml0
  have hown0 := findClass_of_methodNamed Bd.named
  have hown : s.vm.findClass "java/lang/StringUTF16" = some m.cls := hown0
  have hnm := (name_of_methodNamed Bd.named Bd.method).1
  have X0 : Stand p l e (own_r 0 0 0 0) s m #[(.ref a1), (.int p2)] below meth c s₁ [] 0 0 := Stand.of_body Bd
  have e0 : s₁.heap = h0 := by rw [← hh, Bd.state]; rfl
  have N0 := Fr.nil n0
  obtain ⟨S0, hS0⟩ : ∃ z, z = s₁.setTop (entryFrame m #[(.ref a1), (.int p2)] 2) := ⟨_, rfl⟩
  have pre0 : own_Go p e below S0 (s₁.setTop (mkF m 0 #[.val (.ref a1), .val (.int p2)] [])) := fun t k => by rw [hS0]; exact castTop (ef_getc m a1 p2) k
  have fin : ∀ t, Steps p.tables e below S0 t → Steps p.tables e below (s₁.setTop (entryFrame m #[(.ref a1), (.int p2)] 2)) t := fun t k => by rw [hS0] at k; exact k
  obtain ⟨T1, X1, e1, st1⟩ := getS2 X0 hx hZ hown (host := "") (Or.inl (hw _ (own_w 90 rfl))) Via.refl e0 (qU.1.ext O0.2) (g := (mkF m 0 #[.val (.ref a1), .val (.int p2)] [])) rfl (hb hby d21_0)
  have pre2 : own_Go p e below S0 (T1.setTop (mkF m 37 #[.val (.ref a1), .val (.int ((p2 <<< ((1 : Int32) &&& 31)) + (1 : Int32)))] [(.int (p2 <<< ((1 : Int32) &&& 31))), (.ref a1)])) := by
    intro t kt
    refine pre0 t ?_
    refine st1 _ ?_
    refine XS.ifYes X1.here hx rfl (pc0 := 3) (pc' := 28) rfl (hb hby d21_3) rfl ((if0 _ _).trans (feq (by decide : ¬ ((1 : Int32) = (0 : Int32)))).2) (by decide) (by decide) ?_
    refine XS.iloadN X1.here hx rfl (hb hby d21_28) rfl ?_
    refine XS.iconst X1.here hx rfl (hb hby d21_29) ?_
    refine XS.ishl X1.here hx rfl (hb hby d21_30) rfl ?_
    refine XS.istoreN X1.here hx rfl (hb hby d21_31) rfl (l' := #[.val (.ref a1), .val (.int (p2 <<< ((1 : Int32) &&& 31)))]) rfl ?_
    show Steps p.tables e below (T1.setTop (mkF m 32 #[.val (.ref a1), .val (.int (p2 <<< ((1 : Int32) &&& 31)))] [])) _
    refine XS.aloadN X1.here hx rfl (hb hby d21_32) rfl rfl ?_
    refine XS.iloadN X1.here hx rfl (hb hby d21_33) rfl ?_
    refine XS.iinc X1.here hx rfl (hb hby d21_34) rfl (l' := #[.val (.ref a1), .val (.int ((p2 <<< ((1 : Int32) &&& 31)) + (1 : Int32)))]) rfl ?_
    exact kt
  obtain ⟨cl3, Ar3, -, Sz3, -, Hs3, -⟩ := id V1
  have hin3 : ¬ ((p2 <<< ((1 : Int32) &&& 31)) < 0 ∨ cl3.slots.size ≤ ((p2 <<< ((1 : Int32) &&& 31))).toNatClampNeg) := inb_of Sz3 ⟨g0a, g0b⟩
  have pre4 : own_Go p e below S0 (T1.setTop (mkF m 42 #[.val (.ref a1), .val (.int ((p2 <<< ((1 : Int32) &&& 31)) + (1 : Int32)))] [(.int (b0 &&& (255 : Int32)))])) := by
    intro t kt
    refine pre2 t ?_
    refine X1.baloadBytes hx (j := (p2 <<< ((1 : Int32) &&& 31))) (v := (.int b0)) (by rw [e1]; exact Ar3.1) (State.isArrayOf_alike hZ.alike Ar3.2.1) Ar3.2.2 hin3 (Hs3.at hin3 (by rw [hm0]; exact hb0)) (g := (mkF m 37 #[.val (.ref a1), .val (.int ((p2 <<< ((1 : Int32) &&& 31)) + (1 : Int32)))] [(.int (p2 <<< ((1 : Int32) &&& 31))), (.ref a1)])) rfl rfl (hb hby d21_37) _ ?_
    refine XS.sipush X1.here hx rfl (hb hby d21_38) ?_
    refine XS.iand X1.here hx rfl (hb hby d21_41) rfl ?_
    exact kt
  obtain ⟨T5, X5, e5, st5⟩ := getS2 X1 hx hZ hown (host := "") (Or.inl (hw _ (own_w 91 rfl))) Via.refl e1 (qU.2.1.ext O0.2) (g := (mkF m 42 #[.val (.ref a1), .val (.int ((p2 <<< ((1 : Int32) &&& 31)) + (1 : Int32)))] [(.int (b0 &&& (255 : Int32)))])) rfl (hb hby d21_42)
  have pre6 : own_Go p e below S0 (T5.setTop (mkF m 48 #[.val (.ref a1), .val (.int ((p2 <<< ((1 : Int32) &&& 31)) + (1 : Int32)))] [(.int ((p2 <<< ((1 : Int32) &&& 31)) + (1 : Int32))), (.ref a1), (.int ((b0 &&& (255 : Int32)) <<< ((0 : Int32) &&& 31)))])) := by
    intro t kt
    refine pre4 t ?_
    refine st5 _ ?_
    refine XS.ishl X5.here hx rfl (hb hby d21_45) rfl ?_
    refine XS.aloadN X5.here hx rfl (hb hby d21_46) rfl rfl ?_
    refine XS.iloadN X5.here hx rfl (hb hby d21_47) rfl ?_
    exact kt
  obtain ⟨cl7, Ar7, -, Sz7, -, Hs7, -⟩ := id V1
  have hin7 : ¬ (((p2 <<< ((1 : Int32) &&& 31)) + (1 : Int32)) < 0 ∨ cl7.slots.size ≤ (((p2 <<< ((1 : Int32) &&& 31)) + (1 : Int32))).toNatClampNeg) := inb_of Sz7 ⟨g1a, g1b⟩
  have pre8 : own_Go p e below S0 (T5.setTop (mkF m 53 #[.val (.ref a1), .val (.int ((p2 <<< ((1 : Int32) &&& 31)) + (1 : Int32)))] [(.int (b1 &&& (255 : Int32))), (.int ((b0 &&& (255 : Int32)) <<< ((0 : Int32) &&& 31)))])) := by
    intro t kt
    refine pre6 t ?_
    refine X5.baloadBytes hx (j := ((p2 <<< ((1 : Int32) &&& 31)) + (1 : Int32))) (v := (.int b1)) (by rw [e5]; exact Ar7.1) (State.isArrayOf_alike hZ.alike Ar7.2.1) Ar7.2.2 hin7 (Hs7.at hin7 (by rw [hm1]; exact hb1)) (g := (mkF m 48 #[.val (.ref a1), .val (.int ((p2 <<< ((1 : Int32) &&& 31)) + (1 : Int32)))] [(.int ((p2 <<< ((1 : Int32) &&& 31)) + (1 : Int32))), (.ref a1), (.int ((b0 &&& (255 : Int32)) <<< ((0 : Int32) &&& 31)))])) rfl rfl (hb hby d21_48) _ ?_
    refine XS.sipush X5.here hx rfl (hb hby d21_49) ?_
    refine XS.iand X5.here hx rfl (hb hby d21_52) rfl ?_
    exact kt
  obtain ⟨T9, X9, e9, st9⟩ := getS2 X5 hx hZ hown (host := "") (Or.inl (hw _ (own_w 92 rfl))) Via.refl e5 (qU.2.2.ext O0.2) (g := (mkF m 53 #[.val (.ref a1), .val (.int ((p2 <<< ((1 : Int32) &&& 31)) + (1 : Int32)))] [(.int (b1 &&& (255 : Int32))), (.int ((b0 &&& (255 : Int32)) <<< ((0 : Int32) &&& 31)))])) rfl (hb hby d21_53)
  have pre10 : own_Go p e below S0 (T9.setTop (mkF m 59 #[.val (.ref a1), .val (.int ((p2 <<< ((1 : Int32) &&& 31)) + (1 : Int32)))] [(.int ((((b0 &&& (255 : Int32)) <<< ((0 : Int32) &&& 31)) ||| ((b1 &&& (255 : Int32)) <<< ((8 : Int32) &&& 31))).toUInt32.toUInt16.toUInt32.toInt32))])) := by
    intro t kt
    refine pre8 t ?_
    refine st9 _ ?_
    refine XS.ishl X9.here hx rfl (hb hby d21_56) rfl ?_
    refine XS.ior X9.here hx rfl (hb hby d21_57) rfl ?_
    refine XS.i2c X9.here hx rfl (hb hby d21_58) rfl ?_
    exact kt
  obtain ⟨fs, hr, hrun, hended, hW, hsame⟩ := X9.leave (v := some (.int (nar .char ((((b0 &&& (255 : Int32)) <<< ((0 : Int32) &&& 31)) ||| ((b1 &&& (255 : Int32)) <<< ((8 : Int32) &&& 31))).toUInt32.toUInt16.toUInt32.toInt32)))) (fun h => by rw [Bd.returns] at h; cases h)
  refine ⟨_, _, fin _ (pre10 _ ?_), hrun, hended, _, _, rfl, ?_, ⟨_, rfl⟩, hW, hsame.mono (by decide) (by decide)⟩
  · exact retN X9 hx (t := .char) Bd.returns (by simp) (hb hby d21_59) hr
  · show Qgetc Z a1 p2 k1 z1 vs d1 b0 b1 m0 m1 h0 n0 _ T9.heap _
    rw [e9]
    exact ⟨rfl, N0, rfl⟩

theorem d7_0 : decode jdk_52_method_16_code 0 = .ok (.iload_n 2, 1) := by decide +kernel
theorem d7_1 : decode jdk_52_method_16_code 1 = .ok (.newarray .byte, 2) := by decide +kernel
theorem d7_3 : decode jdk_52_method_16_code 3 = .ok (.astore_n 3, 1) := by decide +kernel
theorem d7_4 : decode jdk_52_method_16_code 4 = .ok (.aload_n 0, 1) := by decide +kernel
theorem d7_5 : decode jdk_52_method_16_code 5 = .ok (.iload_n 1, 1) := by decide +kernel
theorem d7_6 : decode jdk_52_method_16_code 6 = .ok (.aload_n 3, 1) := by decide +kernel
theorem d7_7 : decode jdk_52_method_16_code 7 = .ok (.iconst 0, 1) := by decide +kernel
theorem d7_8 : decode jdk_52_method_16_code 8 = .ok (.iload_n 2, 1) := by decide +kernel
theorem d7_9 : decode jdk_52_method_16_code 9 = .ok (.invokestatic 115, 3) := by decide +kernel
theorem d7_12 : decode jdk_52_method_16_code 12 = .ok (.istore 4, 2) := by decide +kernel
theorem d7_14 : decode jdk_52_method_16_code 14 = .ok (.iload 4, 2) := by decide +kernel
theorem d7_16 : decode jdk_52_method_16_code 16 = .ok (.iload_n 2, 1) := by decide +kernel
theorem d7_17 : decode jdk_52_method_16_code 17 = .ok (.if_icmp .eq 40, 3) := by decide +kernel
theorem d7_20 : decode jdk_52_method_16_code 20 = .ok (.aload_n 0, 1) := by decide +kernel
theorem d7_21 : decode jdk_52_method_16_code 21 = .ok (.iload_n 1, 1) := by decide +kernel
theorem d7_22 : decode jdk_52_method_16_code 22 = .ok (.iload_n 2, 1) := by decide +kernel
theorem d7_23 : decode jdk_52_method_16_code 23 = .ok (.invokestatic 119, 3) := by decide +kernel
theorem d7_26 : decode jdk_52_method_16_code 26 = .ok (.astore 5, 2) := by decide +kernel
theorem d7_28 : decode jdk_52_method_16_code 28 = .ok (.aload 5, 2) := by decide +kernel
theorem d7_30 : decode jdk_52_method_16_code 30 = .ok (.iload 4, 2) := by decide +kernel
theorem d7_32 : decode jdk_52_method_16_code 32 = .ok (.invokestatic 71, 3) := by decide +kernel
theorem d7_35 : decode jdk_52_method_16_code 35 = .ok (.sipush 255, 3) := by decide +kernel
theorem d7_38 : decode jdk_52_method_16_code 38 = .ok (.if_icmp .gt 16, 3) := by decide +kernel
theorem d7_54 : decode jdk_52_method_16_code 54 = .ok (.aload 5, 2) := by decide +kernel
theorem d7_56 : decode jdk_52_method_16_code 56 = .ok (.areturn, 1) := by decide +kernel
theorem d7_57 : decode jdk_52_method_16_code 57 = .ok (.aload_n 3, 1) := by decide +kernel
theorem d7_58 : decode jdk_52_method_16_code 58 = .ok (.areturn, 1) := by decide +kernel
theorem pn_7 : plainName "java/lang/StringUTF16" = true := by first | (simp [plainName, overriddenIn]; done) | decide +kernel
theorem pd_5 : parseMethodDescriptor "([CI[BII)I" = some ⟨[(.array .char), .int, (.array .byte), .int, .int], some .int⟩ := by decide +kernel
theorem pd_6 : parseMethodDescriptor "([CII)[B" = some ⟨[(.array .char), .int, .int], some (.array .byte)⟩ := by decide +kernel
theorem pd_7 : parseMethodDescriptor "([BI)C" = some ⟨[(.array .byte), .int], some .char⟩ := by decide +kernel
theorem ef_cmp3_1 (m : MethodId) (x0 : Addr) : entryFrame m #[(.ref x0), (.int 0), (.int 1)] 6 = mkF m 0 #[.val (.ref x0), .val (.int 0), .val (.int 1), .unset, .unset, .unset] [] := by first | (simp [entryFrame, mkF, argsToLocals, Value.category]; done) | rfl
def Qcmp3_1 (Z : State) (a1 : Addr) (kc : ClassId) (c0 : Int32) (h0 : Heap) (n0 : Nat) (v : Option Value) (h : Heap) (L : List Loc) : Prop := ∃ b : Addr, ∃ kb : ClassId, v = (some (.ref b)) ∧ Fr n0 L ∧ Keep h0 h [] ∧ h0.size ≤ b ∧ ((own_Lat [c0] ∧ Arv Z h b kb .byte (1 : Int32) [(.int (nar .byte (c0.toInt8.toInt32)))] (.int 0)) ∨ (own_Chr [c0] ∧ Arv Z h b kb .byte (2 : Int32) [(.int (nar .byte ((c0 >>> ((0 : Int32) &&& 31)).toInt8.toInt32))), (.int (nar .byte ((c0 >>> ((8 : Int32) &&& 31)).toInt8.toInt32)))] (.int 0)))
set_option maxRecDepth 65536 in
set_option maxHeartbeats 40000000 in
theorem rmcmp3_1 (l : Launch) (Z : State) (a0 : Array Value) (hw : ∀ d ∈ tables_1, d.before a0 Z = true) (ws : List Jvm.Cond) (a1 : Addr) (kc : ClassId) (c0 : Int32) (h0 : Heap) (n0 : Nat) (Z0 : n0 ≤ h0.size) (O0 : Old Z n0 h0) (qU : (own_SU Z)) (VC : Arv Z h0 a1 kc .char (1 : Int32) [(.int c0)] (.int 0)) :
    MetFree l own_m14 (head1 (Jvm.Cond.code own_m14 jdk_52_method_16_code 6 (some (.array .byte)) :: ws) (own_r 3 2 3 40)) (fun a U => a = #[(.ref a1), (.int 0), (.int 1)] ∧ Z.Warmed39 U.vm ∧ U.heap = h0) (fun _ _ _ _ _ => True) (fun _ U o U' => ∃ v L, o = .returned v ∧ Qcmp3_1 Z a1 kc c0 h0 n0 v U'.heap L ∧ FrameEnd U o U' L (own_r 3 2 3 40).cells (own_r 3 2 3 40).slots) := by
  refine MetFree.of_bodySF (plainFor_of_name pn_7) hisR ?_
  intro p e s m args below meth c s₁ Bd hml0 hP hK
  obtain ⟨rfl, hZ, hh⟩ := hP
  have hx := Bd.exec
  have hby := Bd.bytes
  have hml : c.maxLocals = 6 := hml0
  have hown0 := findClass_of_methodNamed Bd.named
  have hown : s.vm.findClass "java/lang/StringUTF16" = some m.cls := hown0
  have hnm := (name_of_methodNamed Bd.named Bd.method).1
  have X0 : Stand p l e (own_r 3 2 3 40) s m #[(.ref a1), (.int 0), (.int 1)] below meth c s₁ [] 0 0 := Stand.of_body Bd
  have e0 : s₁.heap = h0 := by rw [← hh, Bd.state]; rfl
  have N0 := Fr.nil n0
  obtain ⟨S0, hS0⟩ : ∃ z, z = s₁.setTop (entryFrame m #[(.ref a1), (.int 0), (.int 1)] 6) := ⟨_, rfl⟩
  have pre0 : own_Go p e below S0 (s₁.setTop (mkF m 0 #[.val (.ref a1), .val (.int 0), .val (.int 1), .unset, .unset, .unset] [])) := fun t k => by rw [hS0]; exact castTop (ef_cmp3_1 m a1) k
  have fin : ∀ t, Steps p.tables e below S0 t → Steps p.tables e below (s₁.setTop (entryFrame m #[(.ref a1), (.int 0), (.int 1)] 6)) t := fun t k => by rw [hS0] at k; exact k
  have kc0 : Keep h0 h0 [] := Keep.refl _ _
  have pre1 : own_Go p e below S0 (s₁.setTop (mkF m 1 #[.val (.ref a1), .val (.int 0), .val (.int 1), .unset, .unset, .unset] [(.int 1)])) := by
    intro t kt
    refine pre0 t ?_
    refine XS.iloadN X0.here hx rfl (hb hby d7_0) rfl ?_
    exact kt
  obtain ⟨T2, h2, k2, X2, e2, E2, A2, st2⟩ := newP X0 hx hZ (hw _ (own_w 16 rfl)) e0 (g := (mkF m 1 #[.val (.ref a1), .val (.int 0), .val (.int 1), .unset, .unset, .unset] [(.int 1)])) rfl (hb hby d7_1) rfl (by decide) (cap := 1) (by decide) (by decide) (by decide) (by decide)
  obtain ⟨b2, g2⟩ : ∃ z, z = h0.size := ⟨_, rfl⟩
  rw [← g2] at A2 st2
  have ne3 : a1 ≠ b2 := Nat.ne_of_lt (Nat.lt_of_lt_of_le VC.lt (Nat.le_of_eq g2.symm))
  have ge4 : n0 ≤ b2 := Nat.le_trans Z0 (Nat.le_of_eq g2.symm)
  have sz5 : h0.size ≤ b2 := Nat.le_trans kc0.1 (Nat.le_of_eq g2.symm)
  have zs6 : n0 ≤ h2.size := Nat.le_trans Z0 E2.1
  have kc7 : Keep h0 h2 [] := kc0.ext E2
  have V2 : Arv Z h2 b2 k2 .byte (1 : Int32) [(.int 0)] (.int 0) := (Arv.new A2 (by decide)).pad (pad_rep [] (.int 0) 1)
  have pre8 : own_Go p e below S0 (T2.setTop (mkF m 9 #[.val (.ref a1), .val (.int 0), .val (.int 1), .val (.ref b2), .unset, .unset] [(.int 1), (.int 0), (.ref b2), (.int 0), (.ref a1)])) := by
    intro t kt
    refine pre1 t ?_
    refine st2 _ ?_
    refine XS.astoreN X2.here hx rfl (hb hby d7_3) rfl rfl (l' := #[.val (.ref a1), .val (.int 0), .val (.int 1), .val (.ref b2), .unset, .unset]) rfl ?_
    refine XS.aloadN X2.here hx rfl (hb hby d7_4) rfl rfl ?_
    refine XS.iloadN X2.here hx rfl (hb hby d7_5) rfl ?_
    refine XS.aloadN X2.here hx rfl (hb hby d7_6) rfl rfl ?_
    refine XS.iconst X2.here hx rfl (hb hby d7_7) ?_
    show Steps p.tables e below (T2.setTop (mkF m 8 #[.val (.ref a1), .val (.int 0), .val (.int 1), .val (.ref b2), .unset, .unset] [(.int 0), (.ref b2), (.int 0), (.ref a1)])) _
    refine XS.iloadN X2.here hx rfl (hb hby d7_8) rfl ?_
    exact kt
  have f9 : Arv Z h2 a1 kc .char (1 : Int32) [(.int c0)] (.int 0) := (VC.ext E2)
  obtain ⟨_, _, ⟨T10, L10, k10, n10⟩, -, X10, ⟨Lc10, hQ10, l10, y10, z10⟩, st10⟩ := Jvm.LawKit.callS X2 hx (y := own_m15) hown (mvT hZ (hw _ (own_w 42 rfl))) (mvT hZ (hw _ (own_w 43 rfl))) (mvT hZ (hw _ (own_w 40 rfl))) (mvT hZ (hw _ (own_w 44 rfl))) (by decide) (backOf (W := 0) (rmcmp5_1 l Z a0 hw [] a1 b2 kc k2 c0 h2 n0 zs6 f9 ge4 V2 ne3) hZ (hw _ (own_w 44 rfl)) (hw _ (own_w 40 rfl)) (by decide) (by decide)) (g := (mkF m 9 #[.val (.ref a1), .val (.int 0), .val (.int 1), .val (.ref b2), .unset, .unset] [(.int 1), (.int 0), (.ref b2), (.int 0), (.ref a1)])) rfl (by rw [hml]; rfl) (argsL := [(.ref a1), (.int 0), (.ref b2), (.int 0), (.int 1)]) (rest := []) (lenOf pd_5 rfl) rfl (by show 2 * 0 + _ ≤ _; exact Nat.le_of_eq rfl) (hb hby d7_9) (fun _ _ => ⟨rfl, e2, (by decide : 1 + 0 ≤ _), (by decide : 1 + 0 ≤ _)⟩)
  dsimp only [Pt.U, Pt.locs, Pt.cells, Pt.slots] at X10 l10 y10 z10 st10 hQ10
  subst l10 y10 z10
  obtain ⟨r11, rfl, Nq10, K10, g12⟩ := hQ10
  have N10 := Fr.app N0 Nq10
  have zs13 : n0 ≤ T10.heap.size := Nat.le_trans zs6 K10.1
  have kc14 : Keep h0 T10.heap [] := kc7.trans K10 (allS (Or.inr sz5) all0)
  have pre15 : own_Go p e below S0 (T10.setTop (mkF m 12 #[.val (.ref a1), .val (.int 0), .val (.int 1), .val (.ref b2), .unset, .unset] [(.int r11)])) := by
    intro t kt
    refine pre8 t ?_
    refine st10 _ ?_
    show Steps p.tables e below (T10.setTop (mkF m 12 #[.val (.ref a1), .val (.int 0), .val (.int 1), .val (.ref b2), .unset, .unset] [(.int r11)])) _
    exact kt
  obtain ⟨hr, hl, hv⟩ | ⟨hr, hg⟩ := g12
  · have pre16 : own_Go p e below S0 (T10.setTop (mkF m 12 #[.val (.ref a1), .val (.int 0), .val (.int 1), .val (.ref b2), .unset, .unset] [(.int 1)])) := by
      intro t kt
      refine pre15 t ?_
      rw [hr]
      exact kt
    have pre17 : own_Go p e below S0 (T10.setTop (mkF m 58 #[.val (.ref a1), .val (.int 0), .val (.int 1), .val (.ref b2), .val (.int 1), .unset] [(.ref b2)])) := by
      intro t kt
      refine pre16 t ?_
      refine XS.istore X10.here hx rfl (hb hby d7_12) rfl (l' := #[.val (.ref a1), .val (.int 0), .val (.int 1), .val (.ref b2), .val (.int 1), .unset]) rfl ?_
      refine XS.iload X10.here hx rfl (hb hby d7_14) rfl ?_
      refine XS.iloadN X10.here hx rfl (hb hby d7_16) rfl ?_
      refine XS.icmpYes X10.here hx rfl (pc0 := 17) (pc' := 57) rfl (hb hby d7_17) rfl (teq (by decide : (1 : Int32) = (1 : Int32))).1 (by decide) (by decide) ?_
      refine XS.aloadN X10.here hx rfl (hb hby d7_57) rfl rfl ?_
      exact kt
    obtain ⟨fs, hr, hrun, hended, hW, hsame⟩ := X10.leave (v := some (.ref b2)) (fun h => by rw [Bd.returns] at h; cases h)
    refine ⟨_, _, fin _ (pre17 _ ?_), hrun, hended, _, _, rfl, ?_, ⟨_, rfl⟩, hW, hsame.mono (by decide) (by decide)⟩
    · jvm_step X10.here [X10.here.top, hx, (hb hby d7_58), X10.method', Bd.returns, Value.isRef, FieldType.isReference]
      first | (intro acts; rw [hr _ acts rfl rfl rfl]) | rw [hr _ _ rfl rfl rfl]
      exact Steps.refl _
    · show Qcmp3_1 Z a1 kc c0 h0 n0 _ T10.heap _
      exact ⟨b2, k2, rfl, N10, kc14, sz5, (Or.inl ⟨hl, hv⟩)⟩
  · have pre18 : own_Go p e below S0 (T10.setTop (mkF m 12 #[.val (.ref a1), .val (.int 0), .val (.int 1), .val (.ref b2), .unset, .unset] [(.int 0)])) := by
      intro t kt
      refine pre15 t ?_
      rw [hr]
      exact kt
    have pre19 : own_Go p e below S0 (T10.setTop (mkF m 23 #[.val (.ref a1), .val (.int 0), .val (.int 1), .val (.ref b2), .val (.int 0), .unset] [(.int 1), (.int 0), (.ref a1)])) := by
      intro t kt
      refine pre18 t ?_
      refine XS.istore X10.here hx rfl (hb hby d7_12) rfl (l' := #[.val (.ref a1), .val (.int 0), .val (.int 1), .val (.ref b2), .val (.int 0), .unset]) rfl ?_
      refine XS.iload X10.here hx rfl (hb hby d7_14) rfl ?_
      refine XS.iloadN X10.here hx rfl (hb hby d7_16) rfl ?_
      refine XS.icmpNo X10.here hx rfl (hb hby d7_17) rfl (feq (by decide : ¬ ((0 : Int32) = (1 : Int32)))).1 ?_
      refine XS.aloadN X10.here hx rfl (hb hby d7_20) rfl rfl ?_
      refine XS.iloadN X10.here hx rfl (hb hby d7_21) rfl ?_
      show Steps p.tables e below (T10.setTop (mkF m 22 #[.val (.ref a1), .val (.int 0), .val (.int 1), .val (.ref b2), .val (.int 0), .unset] [(.int 0), (.ref a1)])) _
      refine XS.iloadN X10.here hx rfl (hb hby d7_22) rfl ?_
      exact kt
    have f20 : Old Z n0 T10.heap := ((O0.ext E2).keep K10 (allS ge4 all0))
    have f21 : Arv Z T10.heap a1 kc .char (1 : Int32) [(.int c0)] (.int 0) := (f9.keep K10 (ninS ne3 nin0))
    obtain ⟨_, _, ⟨T22, L22, k22, n22⟩, -, X22, ⟨Lc22, hQ22, l22, y22, z22⟩, st22⟩ := Jvm.LawKit.callS X10 hx (y := own_m21) hown (mvT hZ (hw _ (own_w 77 rfl))) (mvT hZ (hw _ (own_w 78 rfl))) (mvT hZ (hw _ (own_w 40 rfl))) (mvT hZ (hw _ (own_w 79 rfl))) (by decide) (backOf (W := 0) (rmtoB_1 l Z a0 hw [] a1 kc c0 T10.heap n0 zs13 f20 qU f21) hZ (hw _ (own_w 79 rfl)) (hw _ (own_w 40 rfl)) (by decide) (by decide)) (g := (mkF m 23 #[.val (.ref a1), .val (.int 0), .val (.int 1), .val (.ref b2), .val (.int 0), .unset] [(.int 1), (.int 0), (.ref a1)])) rfl (by rw [hml]; rfl) (argsL := [(.ref a1), (.int 0), (.int 1)]) (rest := []) (lenOf pd_6 rfl) rfl (by show 2 * 0 + _ ≤ _; exact Nat.le_of_eq rfl) (hb hby d7_23) (fun _ _ => ⟨rfl, rfl, (by decide : 1 + 1 ≤ _), (by decide : 1 + 2 ≤ _)⟩)
    dsimp only [Pt.U, Pt.locs, Pt.cells, Pt.slots] at X22 l22 y22 z22 st22 hQ22
    subst l22 y22 z22
    obtain ⟨b23, kb24, rfl, Nq22, K22, g25, g26⟩ := hQ22
    have N22 := Fr.app N10 Nq22
    have ne27 : a1 ≠ b23 := Nat.ne_of_lt (Nat.lt_of_lt_of_le f21.lt g25)
    have ge28 : n0 ≤ b23 := Nat.le_trans zs13 g25
    have sz29 : h0.size ≤ b23 := Nat.le_trans kc14.1 g25
    have zs30 : n0 ≤ T22.heap.size := Nat.le_trans zs13 K22.1
    have kc31 : Keep h0 T22.heap [] := kc14.trans K22 all0
    have pre32 : own_Go p e below S0 (T22.setTop (mkF m 32 #[.val (.ref a1), .val (.int 0), .val (.int 1), .val (.ref b2), .val (.int 0), .val (.ref b23)] [(.int 0), (.ref b23)])) := by
      intro t kt
      refine pre19 t ?_
      refine st22 _ ?_
      show Steps p.tables e below (T22.setTop (mkF m 26 #[.val (.ref a1), .val (.int 0), .val (.int 1), .val (.ref b2), .val (.int 0), .unset] [(.ref b23)])) _
      refine XS.astore X22.here hx rfl (hb hby d7_26) rfl rfl (l' := #[.val (.ref a1), .val (.int 0), .val (.int 1), .val (.ref b2), .val (.int 0), .val (.ref b23)]) rfl ?_
      refine XS.aload X22.here hx rfl (hb hby d7_28) rfl rfl ?_
      refine XS.iload X22.here hx rfl (hb hby d7_30) rfl ?_
      exact kt
    have f33 : Old Z n0 T22.heap := (f20.keep K22 all0)
    obtain ⟨_, _, ⟨T34, L34, k34, n34⟩, -, X34, ⟨Lc34, hQ34, l34, y34, z34⟩, st34⟩ := Jvm.LawKit.callS X22 hx (y := own_m16) hown (mvT hZ (hw _ (own_w 93 rfl))) (mvT hZ (hw _ (own_w 94 rfl))) (mvT hZ (hw _ (own_w 40 rfl))) (mvT hZ (hw _ (own_w 95 rfl))) (by decide) (backOf (W := 0) (rmgetc l Z a0 hw [] b23 (0 : Int32) kb24 (2 : Int32) [(.int (nar .byte ((c0 >>> ((0 : Int32) &&& 31)).toInt8.toInt32))), (.int (nar .byte ((c0 >>> ((8 : Int32) &&& 31)).toInt8.toInt32)))] (.int 0) (nar .byte ((c0 >>> ((0 : Int32) &&& 31)).toInt8.toInt32)) (nar .byte ((c0 >>> ((8 : Int32) &&& 31)).toInt8.toInt32)) 0 1 T22.heap n0 zs30 f33 qU g26 (by decide +kernel) (by decide +kernel) (by decide +kernel) rfl (by decide +kernel) (by decide +kernel) (by decide +kernel) rfl) hZ (hw _ (own_w 95 rfl)) (hw _ (own_w 40 rfl)) (by decide) (by decide)) (g := (mkF m 32 #[.val (.ref a1), .val (.int 0), .val (.int 1), .val (.ref b2), .val (.int 0), .val (.ref b23)] [(.int 0), (.ref b23)])) rfl (by rw [hml]; rfl) (argsL := [(.ref b23), (.int 0)]) (rest := []) (lenOf pd_7 rfl) rfl (by show 2 * 0 + _ ≤ _; exact Nat.le_of_eq rfl) (hb hby d7_32) (fun _ _ => ⟨rfl, rfl, (by decide : 2 + 0 ≤ _), (by decide : 3 + 0 ≤ _)⟩)
    dsimp only [Pt.U, Pt.locs, Pt.cells, Pt.slots] at X34 l34 y34 z34 st34 hQ34
    subst l34 y34 z34
    obtain ⟨rfl, Nq34, eq34⟩ := hQ34
    have N34 := Fr.app N22 Nq34
    have pre35 : own_Go p e below S0 (T34.setTop (mkF m 35 #[.val (.ref a1), .val (.int 0), .val (.int 1), .val (.ref b2), .val (.int 0), .val (.ref b23)] [(.int (own_gc (nar .byte ((c0 >>> ((0 : Int32) &&& 31)).toInt8.toInt32)) (nar .byte ((c0 >>> ((8 : Int32) &&& 31)).toInt8.toInt32))))])) := by
      intro t kt
      refine pre32 t ?_
      refine st34 _ ?_
      show Steps p.tables e below (T34.setTop (mkF m 35 #[.val (.ref a1), .val (.int 0), .val (.int 1), .val (.ref b2), .val (.int 0), .val (.ref b23)] [(.int (own_gc (nar .byte ((c0 >>> ((0 : Int32) &&& 31)).toInt8.toInt32)) (nar .byte ((c0 >>> ((8 : Int32) &&& 31)).toInt8.toInt32))))])) _
      exact kt
    have pre36 : own_Go p e below S0 (T34.setTop (mkF m 35 #[.val (.ref a1), .val (.int 0), .val (.int 1), .val (.ref b2), .val (.int 0), .val (.ref b23)] [(.int c0)])) := by
      intro t kt
      refine pre35 t ?_
      rw [own_utfget c0 (own_fitAt VC 0 (by decide) rfl)]
      exact kt
    have pre37 : own_Go p e below S0 (T34.setTop (mkF m 56 #[.val (.ref a1), .val (.int 0), .val (.int 1), .val (.ref b2), .val (.int 0), .val (.ref b23)] [(.ref b23)])) := by
      intro t kt
      refine pre36 t ?_
      refine XS.sipush X34.here hx rfl (hb hby d7_35) ?_
      refine XS.icmpYes X34.here hx rfl (pc0 := 38) (pc' := 54) rfl (hb hby d7_38) rfl (tlt hg).2.2.1 (by decide) (by decide) ?_
      refine XS.aload X34.here hx rfl (hb hby d7_54) rfl rfl ?_
      exact kt
    obtain ⟨fs, hr, hrun, hended, hW, hsame⟩ := X34.leave (v := some (.ref b23)) (fun h => by rw [Bd.returns] at h; cases h)
    refine ⟨_, _, fin _ (pre37 _ ?_), hrun, hended, _, _, rfl, ?_, ⟨_, rfl⟩, hW, hsame.mono (by decide) (by decide)⟩
    · jvm_step X34.here [X34.here.top, hx, (hb hby d7_56), X34.method', Bd.returns, Value.isRef, FieldType.isReference]
      first | (intro acts; rw [hr _ acts rfl rfl rfl]) | rw [hr _ _ rfl rfl rfl]
      exact Steps.refl _
    · show Qcmp3_1 Z a1 kc c0 h0 n0 _ T34.heap _
      rw [eq34]
      exact ⟨b23, kb24, rfl, N34, kc31, sz29, (Or.inr ⟨⟨own_fitAt VC 0 (by decide) rfl, trivial⟩, g26⟩)⟩

theorem d9_0 : decode jdk_52_method_15_code 0 = .ok (.iload_n 1, 1) := by decide +kernel
theorem d9_1 : decode jdk_52_method_15_code 1 = .ok (.aload_n 0, 1) := by decide +kernel
theorem d9_2 : decode jdk_52_method_15_code 2 = .ok (.arraylength, 1) := by decide +kernel
theorem d9_3 : decode jdk_52_method_15_code 3 = .ok (.isub, 1) := by decide +kernel
theorem d9_4 : decode jdk_52_method_15_code 4 = .ok (.bipush 31, 2) := by decide +kernel
theorem d9_6 : decode jdk_52_method_15_code 6 = .ok (.iushr, 1) := by decide +kernel
theorem d9_7 : decode jdk_52_method_15_code 7 = .ok (.i2b, 1) := by decide +kernel
theorem d9_8 : decode jdk_52_method_15_code 8 = .ok (.ireturn, 1) := by decide +kernel
theorem pn_9 : plainName "java/lang/StringUTF16" = true := by first | (simp [plainName, overriddenIn]; done) | decide +kernel
theorem ef_cofa (m : MethodId) (x0 : Addr) (x1 : Int32) : entryFrame m #[(.ref x0), (.int x1)] 2 = mkF m 0 #[.val (.ref x0), .val (.int x1)] [] := by first | (simp [entryFrame, mkF, argsToLocals, Value.category]; done) | rfl
def own_cofa (p2 : Int32) (z1 : Int32) : Int32 := (nar .byte ((((p2 - z1).toUInt32 >>> ((31 : Int32) &&& 31).toUInt32).toInt32).toInt8.toInt32))
def Qcofa (Z : State) (a1 : Addr) (p2 : Int32) (k1 : ClassId) (z1 : Int32) (vs : List Value) (d1 : Value) (h0 : Heap) (n0 : Nat) (v : Option Value) (h : Heap) (L : List Loc) : Prop := v = (some (.int (own_cofa p2 z1))) ∧ Fr n0 L ∧ h = h0
set_option maxRecDepth 65536 in
set_option maxHeartbeats 40000000 in
theorem rmcofa (l : Launch) (Z : State) (a0 : Array Value) (hw : ∀ d ∈ tables_1, d.before a0 Z = true) (ws : List Jvm.Cond) (a1 : Addr) (p2 : Int32) (k1 : ClassId) (z1 : Int32) (vs : List Value) (d1 : Value) (h0 : Heap) (n0 : Nat) (Z0 : n0 ≤ h0.size) (V1 : Arv Z h0 a1 k1 .byte z1 vs d1) :
    MetFree l own_m13 (head1 (Jvm.Cond.code own_m13 jdk_52_method_15_code 2 (some .byte) :: ws) (own_r 0 0 0 0)) (fun a U => a = #[(.ref a1), (.int p2)] ∧ Z.Warmed39 U.vm ∧ U.heap = h0) (fun _ _ _ _ _ => True) (fun _ U o U' => ∃ v L, o = .returned v ∧ Qcofa Z a1 p2 k1 z1 vs d1 h0 n0 v U'.heap L ∧ FrameEnd U o U' L (own_r 0 0 0 0).cells (own_r 0 0 0 0).slots) := by
  refine MetFree.of_bodySF (plainFor_of_name pn_9) hisR ?_
  intro p e s m args below meth c s₁ Bd hml0 hP hK
  obtain ⟨rfl, hZ, hh⟩ := hP
  have hx := Bd.exec
  have hby := Bd.bytes
  have hml : c.maxLocals = 2 := hml0
  have hown0 := findClass_of_methodNamed Bd.named
  have hown : s.vm.findClass "java/lang/StringUTF16" = some m.cls := hown0
  have hnm := (name_of_methodNamed Bd.named Bd.method).1
  have X0 : Stand p l e (own_r 0 0 0 0) s m #[(.ref a1), (.int p2)] below meth c s₁ [] 0 0 := Stand.of_body Bd
  have e0 : s₁.heap = h0 := by rw [← hh, Bd.state]; rfl
  have N0 := Fr.nil n0
  obtain ⟨S0, hS0⟩ : ∃ z, z = s₁.setTop (entryFrame m #[(.ref a1), (.int p2)] 2) := ⟨_, rfl⟩
  have pre0 : own_Go p e below S0 (s₁.setTop (mkF m 0 #[.val (.ref a1), .val (.int p2)] [])) := fun t k => by rw [hS0]; exact castTop (ef_cofa m a1 p2) k
  have fin : ∀ t, Steps p.tables e below S0 t → Steps p.tables e below (s₁.setTop (entryFrame m #[(.ref a1), (.int p2)] 2)) t := fun t k => by rw [hS0] at k; exact k
  have pre1 : own_Go p e below S0 (s₁.setTop (mkF m 2 #[.val (.ref a1), .val (.int p2)] [(.ref a1), (.int p2)])) := by
    intro t kt
    refine pre0 t ?_
    refine XS.iloadN X0.here hx rfl (hb hby d9_0) rfl ?_
    refine XS.aloadN X0.here hx rfl (hb hby d9_1) rfl rfl ?_
    exact kt
  obtain ⟨cl2, Ar2, -, Sz2, Ng2, -, -⟩ := id V1
  have pre3 : own_Go p e below S0 (s₁.setTop (mkF m 8 #[.val (.ref a1), .val (.int p2)] [(.int ((((p2 - z1).toUInt32 >>> ((31 : Int32) &&& 31).toUInt32).toInt32).toInt8.toInt32))])) := by
    intro t kt
    refine pre1 t ?_
    refine X0.arraylength hx (by rw [e0]; exact Ar2.1) (State.isArrayOf_alike hZ.alike Ar2.2.1) (g := (mkF m 2 #[.val (.ref a1), .val (.int p2)] [(.ref a1), (.int p2)])) rfl rfl (hb hby d9_2) _ ?_
    rw [len_of Sz2 Ng2]
    show Steps p.tables e below (s₁.setTop (mkF m 3 #[.val (.ref a1), .val (.int p2)] [(.int z1), (.int p2)])) _
    refine XS.isub X0.here hx rfl (hb hby d9_3) rfl ?_
    refine XS.bipush X0.here hx rfl (hb hby d9_4) ?_
    refine XS.iushr X0.here hx rfl (hb hby d9_6) rfl ?_
    refine XS.i2b X0.here hx rfl (hb hby d9_7) rfl ?_
    show Steps p.tables e below (s₁.setTop (mkF m 8 #[.val (.ref a1), .val (.int p2)] [(.int ((((p2 - z1).toUInt32 >>> ((31 : Int32) &&& 31).toUInt32).toInt32).toInt8.toInt32))])) _
    exact kt
  obtain ⟨fs, hr, hrun, hended, hW, hsame⟩ := X0.leave (v := some (.int (nar .byte ((((p2 - z1).toUInt32 >>> ((31 : Int32) &&& 31).toUInt32).toInt32).toInt8.toInt32)))) (fun h => by rw [Bd.returns] at h; cases h)
  refine ⟨_, _, fin _ (pre3 _ ?_), hrun, hended, _, _, rfl, ?_, ⟨_, rfl⟩, hW, hsame.mono (by decide) (by decide)⟩
  · exact retN X0 hx (t := .byte) Bd.returns (by simp) (hb hby d9_8) hr
  · show Qcofa Z a1 p2 k1 z1 vs d1 h0 n0 _ s₁.heap _
    rw [e0]
    exact ⟨(by show some _ = some _; rw [own_cofa]), N0, rfl⟩

theorem d2_27 : decode jdk_42_method_149_code 27 = .ok (.getstatic 38, 3) := by decide +kernel
theorem d2_30 : decode jdk_42_method_149_code 30 = .ok (.ifCond .eq 28, 3) := by decide +kernel
theorem d2_33 : decode jdk_42_method_149_code 33 = .ok (.aload_n 1, 1) := by decide +kernel
theorem d2_34 : decode jdk_42_method_149_code 34 = .ok (.iload_n 2, 1) := by decide +kernel
theorem d2_35 : decode jdk_42_method_149_code 35 = .ok (.iload_n 3, 1) := by decide +kernel
theorem d2_36 : decode jdk_42_method_149_code 36 = .ok (.invokestatic 177, 3) := by decide +kernel
theorem d2_39 : decode jdk_42_method_149_code 39 = .ok (.astore 5, 2) := by decide +kernel
theorem d2_41 : decode jdk_42_method_149_code 41 = .ok (.aload_n 0, 1) := by decide +kernel
theorem d2_42 : decode jdk_42_method_149_code 42 = .ok (.aload 5, 2) := by decide +kernel
theorem d2_44 : decode jdk_42_method_149_code 44 = .ok (.iload_n 3, 1) := by decide +kernel
theorem d2_45 : decode jdk_42_method_149_code 45 = .ok (.invokestatic 47, 3) := by decide +kernel
theorem d2_48 : decode jdk_42_method_149_code 48 = .ok (.putfield 15, 3) := by decide +kernel
theorem d2_51 : decode jdk_42_method_149_code 51 = .ok (.aload_n 0, 1) := by decide +kernel
theorem d2_52 : decode jdk_42_method_149_code 52 = .ok (.aload 5, 2) := by decide +kernel
theorem d2_54 : decode jdk_42_method_149_code 54 = .ok (.putfield 9, 3) := by decide +kernel
theorem d2_57 : decode jdk_42_method_149_code 57 = .ok (.return_, 1) := by decide +kernel
theorem pd_8 : parseMethodDescriptor "([BI)B" = some ⟨[(.array .byte), .int], some .byte⟩ := by decide +kernel
theorem ef_init4_1 (m : MethodId) (x0 : Addr) (x1 : Addr) : entryFrame m #[(.ref x0), (.ref x1), (.int 0), (.int 1), .null] 6 = mkF m 0 #[.val (.ref x0), .val (.ref x1), .val (.int 0), .val (.int 1), .val .null, .unset] [] := by first | (simp [entryFrame, mkF, argsToLocals, Value.category]; done) | rfl
def Qinit4_1 (Z : State) (a1 : Addr) (a2 : Addr) (kc : ClassId) (c0 : Int32) (wC : Int32) (h0 : Heap) (n0 : Nat) (v : Option Value) (h : Heap) (L : List Loc) : Prop := ∃ vb : Addr, ∃ kb : ClassId, v = none ∧ Fr n0 L ∧ Keep h0 h [a1] ∧ h0.size ≤ vb ∧ own_Str Z h a1 vb kb [c0]
set_option maxRecDepth 65536 in
set_option maxHeartbeats 40000000 in
theorem rminit4_1 (l : Launch) (Z : State) (a0 : Array Value) (hw : ∀ d ∈ tables_1, d.before a0 Z = true) (ws : List Jvm.Cond) (a1 : Addr) (a2 : Addr) (kc : ClassId) (c0 : Int32) (wC : Int32) (h0 : Heap) (n0 : Nat) (Z0 : n0 ≤ h0.size) (O0 : Old Z n0 h0) (qC : (own_SC Z wC)) (qU : (own_SU Z)) (E1 : Exa Z h0 a1 "java/lang/String") (F1 : Fld Z h0 a1 "java/lang/String" "value" "[B" .null) (F2 : Fld Z h0 a1 "java/lang/String" "coder" "B" (.int 0)) (g1 : n0 ≤ a1) (VC : Arv Z h0 a2 kc .char (1 : Int32) [(.int c0)] (.int 0)) :
    MetFree l own_m4 (head1 (Jvm.Cond.code own_m4 jdk_42_method_149_code 6 none :: ws) (own_r 4 2 3 57)) (fun a U => a = #[(.ref a1), (.ref a2), (.int 0), (.int 1), .null] ∧ Z.Warmed39 U.vm ∧ U.heap = h0) (fun _ _ _ _ _ => True) (fun _ U o U' => ∃ v L, o = .returned v ∧ Qinit4_1 Z a1 a2 kc c0 wC h0 n0 v U'.heap L ∧ FrameEnd U o U' L (own_r 4 2 3 57).cells (own_r 4 2 3 57).slots) := by
  refine MetFree.of_bodySF (plainFor_of_name pn_2) hisR ?_
  intro p e s m args below meth c s₁ Bd hml0 hP hK
  obtain ⟨rfl, hZ, hh⟩ := hP
  have hx := Bd.exec
  have hby := Bd.bytes
  have hml : c.maxLocals = 6 := hml0
  have hown0 := findClass_of_methodNamed Bd.named
  have hown : s.vm.findClass "java/lang/String" = some m.cls := hown0
  have hnm := (name_of_methodNamed Bd.named Bd.method).1
  have X0 : Stand p l e (own_r 4 2 3 57) s m #[(.ref a1), (.ref a2), (.int 0), (.int 1), .null] below meth c s₁ [] 0 0 := Stand.of_body Bd
  have e0 : s₁.heap = h0 := by rw [← hh, Bd.state]; rfl
  have N0 := Fr.nil n0
  obtain ⟨S0, hS0⟩ : ∃ z, z = s₁.setTop (entryFrame m #[(.ref a1), (.ref a2), (.int 0), (.int 1), .null] 6) := ⟨_, rfl⟩
  have pre0 : own_Go p e below S0 (s₁.setTop (mkF m 0 #[.val (.ref a1), .val (.ref a2), .val (.int 0), .val (.int 1), .val .null, .unset] [])) := fun t k => by rw [hS0]; exact castTop (ef_init4_1 m a1 a2) k
  have fin : ∀ t, Steps p.tables e below S0 t → Steps p.tables e below (s₁.setTop (entryFrame m #[(.ref a1), (.ref a2), (.int 0), (.int 1), .null] 6)) t := fun t k => by rw [hS0] at k; exact k
  have kc0 : Keep h0 h0 [a1] := Keep.refl _ _
  have pre1 : own_Go p e below S0 (s₁.setTop (mkF m 1 #[.val (.ref a1), .val (.ref a2), .val (.int 0), .val (.int 1), .val .null, .unset] [(.ref a1)])) := by
    intro t kt
    refine pre0 t ?_
    refine XS.aloadN X0.here hx rfl (hb hby d2_0) rfl rfl ?_
    exact kt
  obtain ⟨T2, X2, e2, st2⟩ := initO X0 hx hZ hown (hw _ (own_w 12 rfl)) (hw _ (own_w 13 rfl)) (hw _ (own_w 14 rfl)) e0 (g := (mkF m 1 #[.val (.ref a1), .val (.ref a2), .val (.int 0), .val (.int 1), .val .null, .unset] [(.ref a1)])) rfl (by rw [hml]; rfl) rfl (hb hby d2_1) (by decide) (W := 0) (by show 2 * 0 + _ ≤ _; exact Nat.le_of_eq rfl) (by decide)
  have pre3 : own_Go p e below S0 (T2.setTop (mkF m 27 #[.val (.ref a1), .val (.ref a2), .val (.int 0), .val (.int 1), .val .null, .unset] [])) := by
    intro t kt
    refine pre1 t ?_
    refine st2 _ ?_
    refine XS.iloadN X2.here hx rfl (hb hby d2_4) rfl ?_
    refine XS.ifYes X2.here hx rfl (pc0 := 5) (pc' := 27) rfl (hb hby d2_5) rfl ((if0 _ _).trans (feq (by decide : ¬ ((1 : Int32) = (0 : Int32)))).2) (by decide) (by decide) ?_
    exact kt
  obtain ⟨T4, X4, e4, st4⟩ := getS2 X2 hx hZ hown (host := "") (Or.inl (hw _ (own_w 37 rfl))) Via.refl e2 (qC.1.ext O0.2) (g := (mkF m 27 #[.val (.ref a1), .val (.ref a2), .val (.int 0), .val (.int 1), .val .null, .unset] [])) rfl (hb hby d2_27)
  have pre5 : own_Go p e below S0 (T4.setTop (mkF m 36 #[.val (.ref a1), .val (.ref a2), .val (.int 0), .val (.int 1), .val .null, .unset] [(.int 1), (.int 0), (.ref a2)])) := by
    intro t kt
    refine pre3 t ?_
    refine st4 _ ?_
    refine XS.ifNo X4.here hx rfl (hb hby d2_30) rfl ((if0 _ _).trans (feq qC.2).1) ?_
    refine XS.aloadN X4.here hx rfl (hb hby d2_33) rfl rfl ?_
    refine XS.iloadN X4.here hx rfl (hb hby d2_34) rfl ?_
    refine XS.iloadN X4.here hx rfl (hb hby d2_35) rfl ?_
    exact kt
  obtain ⟨_, _, ⟨T6, L6, k6, n6⟩, -, X6, ⟨Lc6, hQ6, l6, y6, z6⟩, st6⟩ := Jvm.LawKit.callS X4 hx (y := own_m14) hown (mvT hZ (hw _ (own_w 38 rfl))) (mvT hZ (hw _ (own_w 39 rfl))) (mvT hZ (hw _ (own_w 40 rfl))) (mvT hZ (hw _ (own_w 41 rfl))) (by decide) (backOf (W := 0) (rmcmp3_1 l Z a0 hw [] a2 kc c0 h0 n0 Z0 O0 qU VC) hZ (hw _ (own_w 41 rfl)) (hw _ (own_w 40 rfl)) (by decide) (by decide)) (g := (mkF m 36 #[.val (.ref a1), .val (.ref a2), .val (.int 0), .val (.int 1), .val .null, .unset] [(.int 1), (.int 0), (.ref a2)])) rfl (by rw [hml]; rfl) (argsL := [(.ref a2), (.int 0), (.int 1)]) (rest := []) (lenOf pd_6 rfl) rfl (by show 2 * 0 + _ ≤ _; exact Nat.le_of_eq rfl) (hb hby d2_36) (fun _ _ => ⟨rfl, e4, (by decide : 0 + 2 ≤ _), (by decide : 0 + 3 ≤ _)⟩)
  dsimp only [Pt.U, Pt.locs, Pt.cells, Pt.slots] at X6 l6 y6 z6 st6 hQ6
  subst l6 y6 z6
  obtain ⟨b7, kb8, rfl, Nq6, K6, g9, g10⟩ := hQ6
  have N6 := Fr.app N0 Nq6
  have ne11 : a1 ≠ b7 := Nat.ne_of_lt (Nat.lt_of_lt_of_le E1.lt g9)
  have ne12 : a2 ≠ b7 := Nat.ne_of_lt (Nat.lt_of_lt_of_le VC.lt g9)
  have ge13 : n0 ≤ b7 := Nat.le_trans Z0 g9
  have sz14 : h0.size ≤ b7 := Nat.le_trans kc0.1 g9
  have zs15 : n0 ≤ T6.heap.size := Nat.le_trans Z0 K6.1
  have kc16 : Keep h0 T6.heap [a1] := kc0.trans K6 all0
  have pre17 : own_Go p e below S0 (T6.setTop (mkF m 39 #[.val (.ref a1), .val (.ref a2), .val (.int 0), .val (.int 1), .val .null, .unset] [(.ref b7)])) := by
    intro t kt
    refine pre5 t ?_
    refine st6 _ ?_
    show Steps p.tables e below (T6.setTop (mkF m 39 #[.val (.ref a1), .val (.ref a2), .val (.int 0), .val (.int 1), .val .null, .unset] [(.ref b7)])) _
    exact kt
  obtain ⟨hl, hv⟩ | ⟨hl, hv⟩ := g10
  · have pre18 : own_Go p e below S0 (T6.setTop (mkF m 45 #[.val (.ref a1), .val (.ref a2), .val (.int 0), .val (.int 1), .val .null, .val (.ref b7)] [(.int 1), (.ref b7), (.ref a1)])) := by
      intro t kt
      refine pre17 t ?_
      refine XS.astore X6.here hx rfl (hb hby d2_39) rfl rfl (l' := #[.val (.ref a1), .val (.ref a2), .val (.int 0), .val (.int 1), .val .null, .val (.ref b7)]) rfl ?_
      refine XS.aloadN X6.here hx rfl (hb hby d2_41) rfl rfl ?_
      refine XS.aload X6.here hx rfl (hb hby d2_42) rfl rfl ?_
      refine XS.iloadN X6.here hx rfl (hb hby d2_44) rfl ?_
      exact kt
    obtain ⟨_, _, ⟨T19, L19, k19, n19⟩, -, X19, ⟨Lc19, hQ19, l19, y19, z19⟩, st19⟩ := Jvm.LawKit.callS X6 hx (y := own_m13) hown (mvT hZ (hw _ (own_w 45 rfl))) (mvT hZ (hw _ (own_w 46 rfl))) (mvT hZ (hw _ (own_w 40 rfl))) (mvT hZ (hw _ (own_w 47 rfl))) (by decide) (backOf (W := 1) (rmcofa l Z a0 hw [] b7 (1 : Int32) kb8 (1 : Int32) [(.int (nar .byte (c0.toInt8.toInt32)))] (.int 0) T6.heap n0 zs15 hv) hZ (hw _ (own_w 47 rfl)) (hw _ (own_w 40 rfl)) (by decide) (by decide)) (g := (mkF m 45 #[.val (.ref a1), .val (.ref a2), .val (.int 0), .val (.int 1), .val .null, .val (.ref b7)] [(.int 1), (.ref b7), (.ref a1)])) rfl (by rw [hml]; rfl) (argsL := [(.ref b7), (.int 1)]) (rest := [(.ref a1)]) (lenOf pd_8 rfl) rfl (by show 2 * 0 + _ ≤ _; exact Nat.le_of_eq rfl) (hb hby d2_45) (fun _ _ => ⟨rfl, rfl, (by decide : 2 + 0 ≤ _), (by decide : 3 + 0 ≤ _)⟩)
    dsimp only [Pt.U, Pt.locs, Pt.cells, Pt.slots] at X19 l19 y19 z19 st19 hQ19
    subst l19 y19 z19
    obtain ⟨rfl, Nq19, eq19⟩ := hQ19
    have N19 := Fr.app N6 Nq19
    have pre20 : own_Go p e below S0 (T19.setTop (mkF m 48 #[.val (.ref a1), .val (.ref a2), .val (.int 0), .val (.int 1), .val .null, .val (.ref b7)] [(.int (own_cofa (1 : Int32) (1 : Int32))), (.ref a1)])) := by
      intro t kt
      refine pre18 t ?_
      refine st19 _ ?_
      show Steps p.tables e below (T19.setTop (mkF m 48 #[.val (.ref a1), .val (.ref a2), .val (.int 0), .val (.int 1), .val .null, .val (.ref b7)] [(.int (own_cofa (1 : Int32) (1 : Int32))), (.ref a1)])) _
      exact kt
    have pre21 : own_Go p e below S0 (T19.setTop (mkF m 48 #[.val (.ref a1), .val (.ref a2), .val (.int 0), .val (.int 1), .val .null, .val (.ref b7)] [(.int 0), (.ref a1)])) := by
      intro t kt
      refine pre20 t ?_
      rw [(by decide : (own_cofa (1 : Int32) (1 : Int32)) = (0 : Int32))]
      exact kt
    have f22 : Fld Z T6.heap a1 "java/lang/String" "coder" "B" (.int 0) := (F2.keep K6 nin0)
    have f23 : Exa Z T6.heap a1 "java/lang/String" := (E1.keep K6)
    obtain ⟨T24, h24, X24, e24, W24, st24⟩ := putFN X19 hx hZ hown (hw _ (own_w 22 rfl)) Via.refl eq19 f22 f23 (Or.inr ⟨(hw _ (own_w 18 rfl)), rfl, hnm⟩) (hw _ (own_w 3 rfl)) (ty := .byte) (v' := (.int 0)) (by decide) rfl (by decide) (g := (mkF m 48 #[.val (.ref a1), .val (.ref a2), .val (.int 0), .val (.int 1), .val .null, .val (.ref b7)] [(.int 0), (.ref a1)])) rfl rfl (hb hby d2_48)
    have N24 := Fr.snoc X24 N19 g1
    have zs25 : n0 ≤ h24.size := Nat.le_trans zs15 (Keep.of_wr W24).1
    have kc26 : Keep h0 h24 [a1] := kc16.wr W24 (Or.inl (List.mem_of_getElem? (i := 0) rfl))
    have fw24 : Fld Z h24 a1 "java/lang/String" "coder" "B" (.int 0) := f22.same W24
    have pre27 : own_Go p e below S0 (T24.setTop (mkF m 54 #[.val (.ref a1), .val (.ref a2), .val (.int 0), .val (.int 1), .val .null, .val (.ref b7)] [(.ref b7), (.ref a1)])) := by
      intro t kt
      refine pre21 t ?_
      refine st24 _ ?_
      refine XS.aloadN X24.here hx rfl (hb hby d2_51) rfl rfl ?_
      refine XS.aload X24.here hx rfl (hb hby d2_52) rfl rfl ?_
      exact kt
    have f28 : Fld Z h24 a1 "java/lang/String" "value" "[B" .null := ((F1.keep K6 nin0).other W24 (Or.inr (slot_ne (Or.inr (hw _ (own_w 17 rfl))) (Or.inr (hw _ (own_w 18 rfl))) (by decide) (t := (.array .byte)) (t' := .byte) (by decide) (by decide))))
    have f29 : Exa Z h24 a1 "java/lang/String" := (f23.wr W24)
    obtain ⟨T30, h30, X30, e30, W30, st30⟩ := putF X24 hx hZ hown (host := "") (Or.inl (hw _ (own_w 21 rfl))) Via.refl e24 f28 f29 (Or.inr ⟨(hw _ (own_w 17 rfl)), rfl, hnm⟩) (hw _ (own_w 3 rfl)) (ty := (.array .byte)) (by decide) rfl rfl (g := (mkF m 54 #[.val (.ref a1), .val (.ref a2), .val (.int 0), .val (.int 1), .val .null, .val (.ref b7)] [(.ref b7), (.ref a1)])) rfl rfl (hb hby d2_54)
    have N30 := Fr.snoc X30 N24 g1
    have zs31 : n0 ≤ h30.size := Nat.le_trans zs25 (Keep.of_wr W30).1
    have kc32 : Keep h0 h30 [a1] := kc26.wr W30 (Or.inl (List.mem_of_getElem? (i := 0) rfl))
    have fw30 : Fld Z h30 a1 "java/lang/String" "value" "[B" (.ref b7) := f28.same W30
    have pre33 : own_Go p e below S0 (T30.setTop (mkF m 57 #[.val (.ref a1), .val (.ref a2), .val (.int 0), .val (.int 1), .val .null, .val (.ref b7)] [])) := by
      intro t kt
      refine pre27 t ?_
      refine st30 _ ?_
      exact kt
    have f34 : Exa Z h30 a1 "java/lang/String" := (f29.wr W30)
    have f35 : Fld Z h30 a1 "java/lang/String" "coder" "B" (.int 0) := (fw24.other W30 (Or.inr (slot_ne (Or.inr (hw _ (own_w 18 rfl))) (Or.inr (hw _ (own_w 17 rfl))) (by decide) (t := .byte) (t' := (.array .byte)) (by decide) (by decide))))
    have f36 : Arv Z h30 b7 kb8 .byte (1 : Int32) [(.int (nar .byte (c0.toInt8.toInt32)))] (.int 0) := ((hv.other W24 (Ne.symm ne11)).other W30 (Ne.symm ne11))
    obtain ⟨fs, hr, hrun, hended, hW, hsame⟩ := X30.leave (v := none) (fun _ => rfl)
    refine ⟨_, _, fin _ (pre33 _ ?_), hrun, hended, _, _, rfl, ?_, ⟨_, rfl⟩, hW, hsame.mono (by decide) (by decide)⟩
    · exact X30.returnOut hx Bd.returns (hb hby d2_57) hr
    · show Qinit4_1 Z a1 a2 kc c0 wC h0 n0 _ T30.heap _
      rw [e30]
      exact ⟨b7, kb8, rfl, N30, kc32, sz14, ⟨f34, fw30, Or.inl ⟨f35, hl, f36⟩⟩⟩
  · have pre37 : own_Go p e below S0 (T6.setTop (mkF m 45 #[.val (.ref a1), .val (.ref a2), .val (.int 0), .val (.int 1), .val .null, .val (.ref b7)] [(.int 1), (.ref b7), (.ref a1)])) := by
      intro t kt
      refine pre17 t ?_
      refine XS.astore X6.here hx rfl (hb hby d2_39) rfl rfl (l' := #[.val (.ref a1), .val (.ref a2), .val (.int 0), .val (.int 1), .val .null, .val (.ref b7)]) rfl ?_
      refine XS.aloadN X6.here hx rfl (hb hby d2_41) rfl rfl ?_
      refine XS.aload X6.here hx rfl (hb hby d2_42) rfl rfl ?_
      refine XS.iloadN X6.here hx rfl (hb hby d2_44) rfl ?_
      exact kt
    obtain ⟨_, _, ⟨T38, L38, k38, n38⟩, -, X38, ⟨Lc38, hQ38, l38, y38, z38⟩, st38⟩ := Jvm.LawKit.callS X6 hx (y := own_m13) hown (mvT hZ (hw _ (own_w 45 rfl))) (mvT hZ (hw _ (own_w 46 rfl))) (mvT hZ (hw _ (own_w 40 rfl))) (mvT hZ (hw _ (own_w 47 rfl))) (by decide) (backOf (W := 1) (rmcofa l Z a0 hw [] b7 (1 : Int32) kb8 (2 : Int32) [(.int (nar .byte ((c0 >>> ((0 : Int32) &&& 31)).toInt8.toInt32))), (.int (nar .byte ((c0 >>> ((8 : Int32) &&& 31)).toInt8.toInt32)))] (.int 0) T6.heap n0 zs15 hv) hZ (hw _ (own_w 47 rfl)) (hw _ (own_w 40 rfl)) (by decide) (by decide)) (g := (mkF m 45 #[.val (.ref a1), .val (.ref a2), .val (.int 0), .val (.int 1), .val .null, .val (.ref b7)] [(.int 1), (.ref b7), (.ref a1)])) rfl (by rw [hml]; rfl) (argsL := [(.ref b7), (.int 1)]) (rest := [(.ref a1)]) (lenOf pd_8 rfl) rfl (by show 2 * 0 + _ ≤ _; exact Nat.le_of_eq rfl) (hb hby d2_45) (fun _ _ => ⟨rfl, rfl, (by decide : 2 + 0 ≤ _), (by decide : 3 + 0 ≤ _)⟩)
    dsimp only [Pt.U, Pt.locs, Pt.cells, Pt.slots] at X38 l38 y38 z38 st38 hQ38
    subst l38 y38 z38
    obtain ⟨rfl, Nq38, eq38⟩ := hQ38
    have N38 := Fr.app N6 Nq38
    have pre39 : own_Go p e below S0 (T38.setTop (mkF m 48 #[.val (.ref a1), .val (.ref a2), .val (.int 0), .val (.int 1), .val .null, .val (.ref b7)] [(.int (own_cofa (1 : Int32) (2 : Int32))), (.ref a1)])) := by
      intro t kt
      refine pre37 t ?_
      refine st38 _ ?_
      show Steps p.tables e below (T38.setTop (mkF m 48 #[.val (.ref a1), .val (.ref a2), .val (.int 0), .val (.int 1), .val .null, .val (.ref b7)] [(.int (own_cofa (1 : Int32) (2 : Int32))), (.ref a1)])) _
      exact kt
    have pre40 : own_Go p e below S0 (T38.setTop (mkF m 48 #[.val (.ref a1), .val (.ref a2), .val (.int 0), .val (.int 1), .val .null, .val (.ref b7)] [(.int 1), (.ref a1)])) := by
      intro t kt
      refine pre39 t ?_
      rw [(by decide : (own_cofa (1 : Int32) (2 : Int32)) = (1 : Int32))]
      exact kt
    have f41 : Fld Z T6.heap a1 "java/lang/String" "coder" "B" (.int 0) := (F2.keep K6 nin0)
    have f42 : Exa Z T6.heap a1 "java/lang/String" := (E1.keep K6)
    obtain ⟨T43, h43, X43, e43, W43, st43⟩ := putFN X38 hx hZ hown (hw _ (own_w 22 rfl)) Via.refl eq38 f41 f42 (Or.inr ⟨(hw _ (own_w 18 rfl)), rfl, hnm⟩) (hw _ (own_w 3 rfl)) (ty := .byte) (v' := (.int 1)) (by decide) rfl (by decide) (g := (mkF m 48 #[.val (.ref a1), .val (.ref a2), .val (.int 0), .val (.int 1), .val .null, .val (.ref b7)] [(.int 1), (.ref a1)])) rfl rfl (hb hby d2_48)
    have N43 := Fr.snoc X43 N38 g1
    have zs44 : n0 ≤ h43.size := Nat.le_trans zs15 (Keep.of_wr W43).1
    have kc45 : Keep h0 h43 [a1] := kc16.wr W43 (Or.inl (List.mem_of_getElem? (i := 0) rfl))
    have fw43 : Fld Z h43 a1 "java/lang/String" "coder" "B" (.int 1) := f41.same W43
    have pre46 : own_Go p e below S0 (T43.setTop (mkF m 54 #[.val (.ref a1), .val (.ref a2), .val (.int 0), .val (.int 1), .val .null, .val (.ref b7)] [(.ref b7), (.ref a1)])) := by
      intro t kt
      refine pre40 t ?_
      refine st43 _ ?_
      refine XS.aloadN X43.here hx rfl (hb hby d2_51) rfl rfl ?_
      refine XS.aload X43.here hx rfl (hb hby d2_52) rfl rfl ?_
      exact kt
    have f47 : Fld Z h43 a1 "java/lang/String" "value" "[B" .null := ((F1.keep K6 nin0).other W43 (Or.inr (slot_ne (Or.inr (hw _ (own_w 17 rfl))) (Or.inr (hw _ (own_w 18 rfl))) (by decide) (t := (.array .byte)) (t' := .byte) (by decide) (by decide))))
    have f48 : Exa Z h43 a1 "java/lang/String" := (f42.wr W43)
    obtain ⟨T49, h49, X49, e49, W49, st49⟩ := putF X43 hx hZ hown (host := "") (Or.inl (hw _ (own_w 21 rfl))) Via.refl e43 f47 f48 (Or.inr ⟨(hw _ (own_w 17 rfl)), rfl, hnm⟩) (hw _ (own_w 3 rfl)) (ty := (.array .byte)) (by decide) rfl rfl (g := (mkF m 54 #[.val (.ref a1), .val (.ref a2), .val (.int 0), .val (.int 1), .val .null, .val (.ref b7)] [(.ref b7), (.ref a1)])) rfl rfl (hb hby d2_54)
    have N49 := Fr.snoc X49 N43 g1
    have zs50 : n0 ≤ h49.size := Nat.le_trans zs44 (Keep.of_wr W49).1
    have kc51 : Keep h0 h49 [a1] := kc45.wr W49 (Or.inl (List.mem_of_getElem? (i := 0) rfl))
    have fw49 : Fld Z h49 a1 "java/lang/String" "value" "[B" (.ref b7) := f47.same W49
    have pre52 : own_Go p e below S0 (T49.setTop (mkF m 57 #[.val (.ref a1), .val (.ref a2), .val (.int 0), .val (.int 1), .val .null, .val (.ref b7)] [])) := by
      intro t kt
      refine pre46 t ?_
      refine st49 _ ?_
      exact kt
    have f53 : Exa Z h49 a1 "java/lang/String" := (f48.wr W49)
    have f54 : Fld Z h49 a1 "java/lang/String" "coder" "B" (.int 1) := (fw43.other W49 (Or.inr (slot_ne (Or.inr (hw _ (own_w 18 rfl))) (Or.inr (hw _ (own_w 17 rfl))) (by decide) (t := .byte) (t' := (.array .byte)) (by decide) (by decide))))
    have f55 : Arv Z h49 b7 kb8 .byte (2 : Int32) [(.int (nar .byte ((c0 >>> ((0 : Int32) &&& 31)).toInt8.toInt32))), (.int (nar .byte ((c0 >>> ((8 : Int32) &&& 31)).toInt8.toInt32)))] (.int 0) := ((hv.other W43 (Ne.symm ne11)).other W49 (Ne.symm ne11))
    obtain ⟨fs, hr, hrun, hended, hW, hsame⟩ := X49.leave (v := none) (fun _ => rfl)
    refine ⟨_, _, fin _ (pre52 _ ?_), hrun, hended, _, _, rfl, ?_, ⟨_, rfl⟩, hW, hsame.mono (by decide) (by decide)⟩
    · exact X49.returnOut hx Bd.returns (hb hby d2_57) hr
    · show Qinit4_1 Z a1 a2 kc c0 wC h0 n0 _ T49.heap _
      rw [e49]
      exact ⟨b7, kb8, rfl, N49, kc51, sz14, ⟨f53, fw49, Or.inr ⟨f54, hl, f55⟩⟩⟩

theorem ef_init1_1 (m : MethodId) (x0 : Addr) (x1 : Addr) : entryFrame m #[(.ref x0), (.ref x1)] 2 = mkF m 0 #[.val (.ref x0), .val (.ref x1)] [] := by first | (simp [entryFrame, mkF, argsToLocals, Value.category]; done) | rfl
def Qinit1_1 (Z : State) (a1 : Addr) (a2 : Addr) (kc : ClassId) (c0 : Int32) (wC : Int32) (h0 : Heap) (n0 : Nat) (v : Option Value) (h : Heap) (L : List Loc) : Prop := ∃ vb : Addr, ∃ kb : ClassId, v = none ∧ Fr n0 L ∧ Keep h0 h [a1] ∧ h0.size ≤ vb ∧ own_Str Z h a1 vb kb [c0]
set_option maxRecDepth 65536 in
set_option maxHeartbeats 40000000 in
theorem rminit1_1 (l : Launch) (Z : State) (a0 : Array Value) (hw : ∀ d ∈ tables_1, d.before a0 Z = true) (ws : List Jvm.Cond) (a1 : Addr) (a2 : Addr) (kc : ClassId) (c0 : Int32) (wC : Int32) (h0 : Heap) (n0 : Nat) (Z0 : n0 ≤ h0.size) (O0 : Old Z n0 h0) (qC : (own_SC Z wC)) (qU : (own_SU Z)) (E1 : Exa Z h0 a1 "java/lang/String") (F1 : Fld Z h0 a1 "java/lang/String" "value" "[B" .null) (F2 : Fld Z h0 a1 "java/lang/String" "coder" "B" (.int 0)) (g1 : n0 ≤ a1) (VC : Arv Z h0 a2 kc .char (1 : Int32) [(.int c0)] (.int 0)) :
    MetFree l own_m3 (head1 (Jvm.Cond.code own_m3 jdk_42_method_3_code 2 none :: ws) (own_r 5 2 3 74)) (fun a U => a = #[(.ref a1), (.ref a2)] ∧ Z.Warmed39 U.vm ∧ U.heap = h0) (fun _ _ _ _ _ => True) (fun _ U o U' => ∃ v L, o = .returned v ∧ Qinit1_1 Z a1 a2 kc c0 wC h0 n0 v U'.heap L ∧ FrameEnd U o U' L (own_r 5 2 3 74).cells (own_r 5 2 3 74).slots) := by
  refine MetFree.of_bodySF (plainFor_of_name pn_1) hisR ?_
  intro p e s m args below meth c s₁ Bd hml0 hP hK
  obtain ⟨rfl, hZ, hh⟩ := hP
  have hx := Bd.exec
  have hby := Bd.bytes
  have hml : c.maxLocals = 2 := hml0
  have hown0 := findClass_of_methodNamed Bd.named
  have hown : s.vm.findClass "java/lang/String" = some m.cls := hown0
  have hnm := (name_of_methodNamed Bd.named Bd.method).1
  have X0 : Stand p l e (own_r 5 2 3 74) s m #[(.ref a1), (.ref a2)] below meth c s₁ [] 0 0 := Stand.of_body Bd
  have e0 : s₁.heap = h0 := by rw [← hh, Bd.state]; rfl
  have N0 := Fr.nil n0
  obtain ⟨S0, hS0⟩ : ∃ z, z = s₁.setTop (entryFrame m #[(.ref a1), (.ref a2)] 2) := ⟨_, rfl⟩
  have pre0 : own_Go p e below S0 (s₁.setTop (mkF m 0 #[.val (.ref a1), .val (.ref a2)] [])) := fun t k => by rw [hS0]; exact castTop (ef_init1_1 m a1 a2) k
  have fin : ∀ t, Steps p.tables e below S0 t → Steps p.tables e below (s₁.setTop (entryFrame m #[(.ref a1), (.ref a2)] 2)) t := fun t k => by rw [hS0] at k; exact k
  have kc0 : Keep h0 h0 [a1] := Keep.refl _ _
  have pre1 : own_Go p e below S0 (s₁.setTop (mkF m 4 #[.val (.ref a1), .val (.ref a2)] [(.ref a2), (.int 0), (.ref a2), (.ref a1)])) := by
    intro t kt
    refine pre0 t ?_
    refine XS.aloadN X0.here hx rfl (hb hby d1_0) rfl rfl ?_
    refine XS.aloadN X0.here hx rfl (hb hby d1_1) rfl rfl ?_
    refine XS.iconst X0.here hx rfl (hb hby d1_2) ?_
    refine XS.aloadN X0.here hx rfl (hb hby d1_3) rfl rfl ?_
    exact kt
  obtain ⟨cl2, Ar2, -, Sz2, Ng2, -, -⟩ := id VC
  have pre3 : own_Go p e below S0 (s₁.setTop (mkF m 6 #[.val (.ref a1), .val (.ref a2)] [.null, (.int 1), (.int 0), (.ref a2), (.ref a1)])) := by
    intro t kt
    refine pre1 t ?_
    refine X0.arraylength hx (by rw [e0]; exact Ar2.1) (State.isArrayOf_alike hZ.alike Ar2.2.1) (g := (mkF m 4 #[.val (.ref a1), .val (.ref a2)] [(.ref a2), (.int 0), (.ref a2), (.ref a1)])) rfl rfl (hb hby d1_4) _ ?_
    rw [len_of Sz2 Ng2]
    show Steps p.tables e below (s₁.setTop (mkF m 5 #[.val (.ref a1), .val (.ref a2)] [(.int 1), (.int 0), (.ref a2), (.ref a1)])) _
    refine XS.aconstNull X0.here hx rfl (hb hby d1_5) ?_
    exact kt
  obtain ⟨_, _, ⟨T4, L4, k4, n4⟩, -, X4, ⟨Lc4, hQ4, l4, y4, z4⟩, st4⟩ := X0.specialBack hx (y := own_m4) rfl hown (mvT hZ (hw _ (own_w 8 rfl))) (mvT hZ (hw _ (own_w 9 rfl))) (mvT hZ (hw _ (own_w 11 rfl))) (by decide) (backOf (W := 0) (rminit4_1 l Z a0 hw [] a1 a2 kc c0 wC h0 n0 Z0 O0 qC qU E1 F1 F2 g1 VC) hZ (hw _ (own_w 11 rfl)) (hw _ (own_w 4 rfl)) (by decide) (by decide)) (g := (mkF m 6 #[.val (.ref a1), .val (.ref a2)] [.null, (.int 1), (.int 0), (.ref a2), (.ref a1)])) rfl (by rw [hml]; rfl) (Steps.refl _) (a := a1) (argsL := [(.ref a2), (.int 0), (.int 1), .null]) (rest := []) (lenOf pd_0 rfl) rfl (by show 2 * 0 + _ ≤ _; exact Nat.le_of_eq rfl) (hb hby d1_6) (fun _ _ => ⟨rfl, e0, (by decide : 0 + 2 ≤ _), (by decide : 0 + 3 ≤ _)⟩)
  dsimp only [Pt.U, Pt.locs, Pt.cells, Pt.slots] at X4 l4 y4 z4 st4 hQ4
  subst l4 y4 z4
  obtain ⟨vb5, kb6, rfl, Nq4, K4, g7, g8⟩ := hQ4
  have N4 := Fr.app N0 Nq4
  have ne9 : a1 ≠ vb5 := Nat.ne_of_lt (Nat.lt_of_lt_of_le E1.lt g7)
  have ne10 : a2 ≠ vb5 := Nat.ne_of_lt (Nat.lt_of_lt_of_le VC.lt g7)
  have ge11 : n0 ≤ vb5 := Nat.le_trans Z0 g7
  have sz12 : h0.size ≤ vb5 := Nat.le_trans kc0.1 g7
  have zs13 : n0 ≤ T4.heap.size := Nat.le_trans Z0 K4.1
  have kc14 : Keep h0 T4.heap [a1] := kc0.trans K4 (allS (Or.inl (List.mem_of_getElem? (i := 0) rfl)) all0)
  have pre15 : own_Go p e below S0 (T4.setTop (mkF m 9 #[.val (.ref a1), .val (.ref a2)] [])) := by
    intro t kt
    refine pre3 t ?_
    refine st4.trans ?_
    show Steps p.tables e below (T4.setTop (mkF m 9 #[.val (.ref a1), .val (.ref a2)] [])) _
    exact kt
  obtain ⟨fs, hr, hrun, hended, hW, hsame⟩ := X4.leave (v := none) (fun _ => rfl)
  refine ⟨_, _, fin _ (pre15 _ ?_), hrun, hended, _, _, rfl, ?_, ⟨_, rfl⟩, hW, hsame.mono (by decide) (by decide)⟩
  · exact X4.returnOut hx Bd.returns (hb hby d1_9) hr
  · show Qinit1_1 Z a1 a2 kc c0 wC h0 n0 _ T4.heap _
    exact ⟨vb5, kb6, rfl, N4, kc14, sz12, g8⟩

theorem d12_0 : decode jdk_42_method_154_code 0 = .ok (.getstatic 38, 3) := by decide +kernel
theorem d12_3 : decode jdk_42_method_154_code 3 = .ok (.ifCond .eq 14, 3) := by decide +kernel
theorem d12_6 : decode jdk_42_method_154_code 6 = .ok (.aload_n 0, 1) := by decide +kernel
theorem d12_7 : decode jdk_42_method_154_code 7 = .ok (.getfield 15, 3) := by decide +kernel
theorem d12_10 : decode jdk_42_method_154_code 10 = .ok (.ifCond .ne 7, 3) := by decide +kernel
theorem d12_13 : decode jdk_42_method_154_code 13 = .ok (.iconst 1, 1) := by decide +kernel
theorem d12_14 : decode jdk_42_method_154_code 14 = .ok (.goto 4, 3) := by decide +kernel
theorem d12_18 : decode jdk_42_method_154_code 18 = .ok (.ireturn, 1) := by decide +kernel
theorem pn_12 : plainName "java/lang/String" = true := by first | (simp [plainName, overriddenIn]; done) | decide +kernel
theorem ef_isLat0 (m : MethodId) (x0 : Addr) : entryFrame m #[(.ref x0)] 1 = mkF m 0 #[.val (.ref x0)] [] := by first | (simp [entryFrame, mkF, argsToLocals, Value.category]; done) | rfl
def QisLat0 (Z : State) (a1 : Addr) (wC : Int32) (h0 : Heap) (n0 : Nat) (v : Option Value) (h : Heap) (L : List Loc) : Prop := v = (some (.int 1)) ∧ Fr n0 L ∧ h = h0
set_option maxRecDepth 65536 in
set_option maxHeartbeats 40000000 in
theorem rmisLat0 (l : Launch) (Z : State) (a0 : Array Value) (hw : ∀ d ∈ tables_1, d.before a0 Z = true) (ws : List Jvm.Cond) (a1 : Addr) (wC : Int32) (h0 : Heap) (n0 : Nat) (Z0 : n0 ≤ h0.size) (O0 : Old Z n0 h0) (qC : (own_SC Z wC)) (FC : Fld Z h0 a1 "java/lang/String" "coder" "B" (.int 0)) :
    MetFree l own_m8 (head1 (Jvm.Cond.code own_m8 jdk_42_method_154_code 1 (some .boolean) :: ws) (own_r 0 0 0 0)) (fun a U => a = #[(.ref a1)] ∧ Z.Warmed39 U.vm ∧ U.heap = h0) (fun _ _ _ _ _ => True) (fun _ U o U' => ∃ v L, o = .returned v ∧ QisLat0 Z a1 wC h0 n0 v U'.heap L ∧ FrameEnd U o U' L (own_r 0 0 0 0).cells (own_r 0 0 0 0).slots) := by
  refine MetFree.of_bodySF (plainFor_of_name pn_12) hisR ?_
  intro p e s m args below meth c s₁ Bd hml0 hP hK
  obtain ⟨rfl, hZ, hh⟩ := hP
  have hx := Bd.exec
  have hby := Bd.bytes
  have hml : c.maxLocals = 1 := hml0
  have hown0 := findClass_of_methodNamed Bd.named
  have hown : s.vm.findClass "java/lang/String" = some m.cls := hown0
  have hnm := (name_of_methodNamed Bd.named Bd.method).1
  have X0 : Stand p l e (own_r 0 0 0 0) s m #[(.ref a1)] below meth c s₁ [] 0 0 := Stand.of_body Bd
  have e0 : s₁.heap = h0 := by rw [← hh, Bd.state]; rfl
  have N0 := Fr.nil n0
  obtain ⟨S0, hS0⟩ : ∃ z, z = s₁.setTop (entryFrame m #[(.ref a1)] 1) := ⟨_, rfl⟩
  have pre0 : own_Go p e below S0 (s₁.setTop (mkF m 0 #[.val (.ref a1)] [])) := fun t k => by rw [hS0]; exact castTop (ef_isLat0 m a1) k
  have fin : ∀ t, Steps p.tables e below S0 t → Steps p.tables e below (s₁.setTop (entryFrame m #[(.ref a1)] 1)) t := fun t k => by rw [hS0] at k; exact k
  obtain ⟨T1, X1, e1, st1⟩ := getS2 X0 hx hZ hown (host := "") (Or.inl (hw _ (own_w 37 rfl))) Via.refl e0 (qC.1.ext O0.2) (g := (mkF m 0 #[.val (.ref a1)] [])) rfl (hb hby d12_0)
  have pre2 : own_Go p e below S0 (T1.setTop (mkF m 7 #[.val (.ref a1)] [(.ref a1)])) := by
    intro t kt
    refine pre0 t ?_
    refine st1 _ ?_
    refine XS.ifNo X1.here hx rfl (hb hby d12_3) rfl ((if0 _ _).trans (feq qC.2).1) ?_
    refine XS.aloadN X1.here hx rfl (hb hby d12_6) rfl rfl ?_
    exact kt
  obtain ⟨T3, X3, e3, st3⟩ := getF X1 hx hZ hown (host := "") (Or.inl (hw _ (own_w 22 rfl))) Via.refl e1 FC (g := (mkF m 7 #[.val (.ref a1)] [(.ref a1)])) rfl rfl (hb hby d12_7)
  have pre4 : own_Go p e below S0 (T3.setTop (mkF m 18 #[.val (.ref a1)] [(.int 1)])) := by
    intro t kt
    refine pre2 t ?_
    refine st3 _ ?_
    refine XS.ifNo X3.here hx rfl (hb hby d12_10) rfl ((if0 _ _).trans (teq (by decide : (0 : Int32) = (0 : Int32))).2) ?_
    refine XS.iconst X3.here hx rfl (hb hby d12_13) ?_
    refine XS.goto X3.here hx rfl (pc0 := 14) (pc' := 18) rfl (hb hby d12_14) (by decide) (by decide) ?_
    exact kt
  obtain ⟨fs, hr, hrun, hended, hW, hsame⟩ := X3.leave (v := some (.int 1)) (fun h => by rw [Bd.returns] at h; cases h)
  refine ⟨_, _, fin _ (pre4 _ ?_), hrun, hended, _, _, rfl, ?_, ⟨_, rfl⟩, hW, hsame.mono (by decide) (by decide)⟩
  · exact retN X3 hx (t := .boolean) Bd.returns (by simp) (hb hby d12_18) hr
  · show QisLat0 Z a1 wC h0 n0 _ T3.heap _
    rw [e3]
    exact ⟨rfl, N0, rfl⟩

theorem d12_17 : decode jdk_42_method_154_code 17 = .ok (.iconst 0, 1) := by decide +kernel
theorem ef_isLat1 (m : MethodId) (x0 : Addr) : entryFrame m #[(.ref x0)] 1 = mkF m 0 #[.val (.ref x0)] [] := by first | (simp [entryFrame, mkF, argsToLocals, Value.category]; done) | rfl
def QisLat1 (Z : State) (a1 : Addr) (wC : Int32) (h0 : Heap) (n0 : Nat) (v : Option Value) (h : Heap) (L : List Loc) : Prop := v = (some (.int 0)) ∧ Fr n0 L ∧ h = h0
set_option maxRecDepth 65536 in
set_option maxHeartbeats 40000000 in
theorem rmisLat1 (l : Launch) (Z : State) (a0 : Array Value) (hw : ∀ d ∈ tables_1, d.before a0 Z = true) (ws : List Jvm.Cond) (a1 : Addr) (wC : Int32) (h0 : Heap) (n0 : Nat) (Z0 : n0 ≤ h0.size) (O0 : Old Z n0 h0) (qC : (own_SC Z wC)) (FC : Fld Z h0 a1 "java/lang/String" "coder" "B" (.int 1)) :
    MetFree l own_m8 (head1 (Jvm.Cond.code own_m8 jdk_42_method_154_code 1 (some .boolean) :: ws) (own_r 0 0 0 0)) (fun a U => a = #[(.ref a1)] ∧ Z.Warmed39 U.vm ∧ U.heap = h0) (fun _ _ _ _ _ => True) (fun _ U o U' => ∃ v L, o = .returned v ∧ QisLat1 Z a1 wC h0 n0 v U'.heap L ∧ FrameEnd U o U' L (own_r 0 0 0 0).cells (own_r 0 0 0 0).slots) := by
  refine MetFree.of_bodySF (plainFor_of_name pn_12) hisR ?_
  intro p e s m args below meth c s₁ Bd hml0 hP hK
  obtain ⟨rfl, hZ, hh⟩ := hP
  have hx := Bd.exec
  have hby := Bd.bytes
  have hml : c.maxLocals = 1 := hml0
  have hown0 := findClass_of_methodNamed Bd.named
  have hown : s.vm.findClass "java/lang/String" = some m.cls := hown0
  have hnm := (name_of_methodNamed Bd.named Bd.method).1
  have X0 : Stand p l e (own_r 0 0 0 0) s m #[(.ref a1)] below meth c s₁ [] 0 0 := Stand.of_body Bd
  have e0 : s₁.heap = h0 := by rw [← hh, Bd.state]; rfl
  have N0 := Fr.nil n0
  obtain ⟨S0, hS0⟩ : ∃ z, z = s₁.setTop (entryFrame m #[(.ref a1)] 1) := ⟨_, rfl⟩
  have pre0 : own_Go p e below S0 (s₁.setTop (mkF m 0 #[.val (.ref a1)] [])) := fun t k => by rw [hS0]; exact castTop (ef_isLat1 m a1) k
  have fin : ∀ t, Steps p.tables e below S0 t → Steps p.tables e below (s₁.setTop (entryFrame m #[(.ref a1)] 1)) t := fun t k => by rw [hS0] at k; exact k
  obtain ⟨T1, X1, e1, st1⟩ := getS2 X0 hx hZ hown (host := "") (Or.inl (hw _ (own_w 37 rfl))) Via.refl e0 (qC.1.ext O0.2) (g := (mkF m 0 #[.val (.ref a1)] [])) rfl (hb hby d12_0)
  have pre2 : own_Go p e below S0 (T1.setTop (mkF m 7 #[.val (.ref a1)] [(.ref a1)])) := by
    intro t kt
    refine pre0 t ?_
    refine st1 _ ?_
    refine XS.ifNo X1.here hx rfl (hb hby d12_3) rfl ((if0 _ _).trans (feq qC.2).1) ?_
    refine XS.aloadN X1.here hx rfl (hb hby d12_6) rfl rfl ?_
    exact kt
  obtain ⟨T3, X3, e3, st3⟩ := getF X1 hx hZ hown (host := "") (Or.inl (hw _ (own_w 22 rfl))) Via.refl e1 FC (g := (mkF m 7 #[.val (.ref a1)] [(.ref a1)])) rfl rfl (hb hby d12_7)
  have pre4 : own_Go p e below S0 (T3.setTop (mkF m 18 #[.val (.ref a1)] [(.int 0)])) := by
    intro t kt
    refine pre2 t ?_
    refine st3 _ ?_
    refine XS.ifYes X3.here hx rfl (pc0 := 10) (pc' := 17) rfl (hb hby d12_10) rfl ((if0 _ _).trans (feq (by decide : ¬ ((1 : Int32) = (0 : Int32)))).2) (by decide) (by decide) ?_
    refine XS.iconst X3.here hx rfl (hb hby d12_17) ?_
    exact kt
  obtain ⟨fs, hr, hrun, hended, hW, hsame⟩ := X3.leave (v := some (.int 0)) (fun h => by rw [Bd.returns] at h; cases h)
  refine ⟨_, _, fin _ (pre4 _ ?_), hrun, hended, _, _, rfl, ?_, ⟨_, rfl⟩, hW, hsame.mono (by decide) (by decide)⟩
  · exact retN X3 hx (t := .boolean) Bd.returns (by simp) (hb hby d12_18) hr
  · show QisLat1 Z a1 wC h0 n0 _ T3.heap _
    rw [e3]
    exact ⟨rfl, N0, rfl⟩

theorem d15_0 : decode jdk_41_method_11_code 0 = .ok (.iload_n 0, 1) := by decide +kernel
theorem d15_1 : decode jdk_41_method_11_code 1 = .ok (.ifCond .lt 8, 3) := by decide +kernel
theorem d15_4 : decode jdk_41_method_11_code 4 = .ok (.iload_n 0, 1) := by decide +kernel
theorem d15_5 : decode jdk_41_method_11_code 5 = .ok (.iload_n 1, 1) := by decide +kernel
theorem d15_6 : decode jdk_41_method_11_code 6 = .ok (.if_icmp .lt 10, 3) := by decide +kernel
theorem d15_16 : decode jdk_41_method_11_code 16 = .ok (.iload_n 0, 1) := by decide +kernel
theorem d15_17 : decode jdk_41_method_11_code 17 = .ok (.ireturn, 1) := by decide +kernel
theorem pn_15 : plainName "jdk/internal/util/Preconditions" = true := by first | (simp [plainName, overriddenIn]; done) | decide +kernel
theorem ef_pck_n (m : MethodId) (x0 : Int32) (x1 : Int32) : entryFrame m #[(.int x0), (.int x1), .null] 3 = mkF m 0 #[.val (.int x0), .val (.int x1), .val .null] [] := by first | (simp [entryFrame, mkF, argsToLocals, Value.category]; done) | rfl
def Qpck_n (Z : State) (p1 : Int32) (p2 : Int32) (h0 : Heap) (n0 : Nat) (v : Option Value) (h : Heap) (L : List Loc) : Prop := v = (some (.int p1)) ∧ Fr n0 L ∧ h = h0
set_option maxRecDepth 65536 in
set_option maxHeartbeats 40000000 in
theorem rmpck_n (l : Launch) (Z : State) (a0 : Array Value) (hw : ∀ d ∈ tables_1, d.before a0 Z = true) (ws : List Jvm.Cond) (p1 : Int32) (p2 : Int32) (h0 : Heap) (n0 : Nat) (Z0 : n0 ≤ h0.size) (h1 : (¬ p1 < (0 : Int32))) (h2 : (p1 < p2)) :
    MetFree l own_m22 (head1 (Jvm.Cond.code own_m22 jdk_41_method_11_code 3 (some .int) :: ws) (own_r 0 0 0 0)) (fun a U => a = #[(.int p1), (.int p2), .null] ∧ Z.Warmed39 U.vm ∧ U.heap = h0) (fun _ _ _ _ _ => True) (fun _ U o U' => ∃ v L, o = .returned v ∧ Qpck_n Z p1 p2 h0 n0 v U'.heap L ∧ FrameEnd U o U' L (own_r 0 0 0 0).cells (own_r 0 0 0 0).slots) := by
  refine MetFree.of_bodySF (plainFor_of_name pn_15) hisR ?_
  intro p e s m args below meth c s₁ Bd hml0 hP hK
  obtain ⟨rfl, hZ, hh⟩ := hP
  have hx := Bd.exec
  have hby := Bd.bytes
  have hml : c.maxLocals = 3 := hml0
  have hown0 := findClass_of_methodNamed Bd.named
  have hown : s.vm.findClass "jdk/internal/util/Preconditions" = some m.cls := hown0
  have hnm := (name_of_methodNamed Bd.named Bd.method).1
  have X0 : Stand p l e (own_r 0 0 0 0) s m #[(.int p1), (.int p2), .null] below meth c s₁ [] 0 0 := Stand.of_body Bd
  have e0 : s₁.heap = h0 := by rw [← hh, Bd.state]; rfl
  have N0 := Fr.nil n0
  obtain ⟨S0, hS0⟩ : ∃ z, z = s₁.setTop (entryFrame m #[(.int p1), (.int p2), .null] 3) := ⟨_, rfl⟩
  have pre0 : own_Go p e below S0 (s₁.setTop (mkF m 0 #[.val (.int p1), .val (.int p2), .val .null] [])) := fun t k => by rw [hS0]; exact castTop (ef_pck_n m p1 p2) k
  have fin : ∀ t, Steps p.tables e below S0 t → Steps p.tables e below (s₁.setTop (entryFrame m #[(.int p1), (.int p2), .null] 3)) t := fun t k => by rw [hS0] at k; exact k
  have pre1 : own_Go p e below S0 (s₁.setTop (mkF m 17 #[.val (.int p1), .val (.int p2), .val .null] [(.int p1)])) := by
    intro t kt
    refine pre0 t ?_
    refine XS.iloadN X0.here hx rfl (hb hby d15_0) rfl ?_
    refine XS.ifNo X0.here hx rfl (hb hby d15_1) rfl ((if0 _ _).trans (flt h1).1) ?_
    refine XS.iloadN X0.here hx rfl (hb hby d15_4) rfl ?_
    refine XS.iloadN X0.here hx rfl (hb hby d15_5) rfl ?_
    refine XS.icmpYes X0.here hx rfl (pc0 := 6) (pc' := 16) rfl (hb hby d15_6) rfl (tlt h2).1 (by decide) (by decide) ?_
    refine XS.iloadN X0.here hx rfl (hb hby d15_16) rfl ?_
    show Steps p.tables e below (s₁.setTop (mkF m 17 #[.val (.int p1), .val (.int p2), .val .null] [(.int p1)])) _
    exact kt
  obtain ⟨fs, hr, hrun, hended, hW, hsame⟩ := X0.leave (v := some (.int p1)) (fun h => by rw [Bd.returns] at h; cases h)
  refine ⟨_, _, fin _ (pre1 _ ?_), hrun, hended, _, _, rfl, ?_, ⟨_, rfl⟩, hW, hsame.mono (by decide) (by decide)⟩
  · exact retI X0 hx Bd.returns (hb hby d15_17) hr
  · show Qpck_n Z p1 p2 h0 n0 _ s₁.heap _
    rw [e0]
    exact ⟨rfl, N0, rfl⟩

theorem ef_pck_r (m : MethodId) (x0 : Int32) (x1 : Int32) (x2 : Addr) : entryFrame m #[(.int x0), (.int x1), (.ref x2)] 3 = mkF m 0 #[.val (.int x0), .val (.int x1), .val (.ref x2)] [] := by first | (simp [entryFrame, mkF, argsToLocals, Value.category]; done) | rfl
def Qpck_r (Z : State) (p1 : Int32) (p2 : Int32) (a3 : Addr) (h0 : Heap) (n0 : Nat) (v : Option Value) (h : Heap) (L : List Loc) : Prop := v = (some (.int p1)) ∧ Fr n0 L ∧ h = h0
set_option maxRecDepth 65536 in
set_option maxHeartbeats 40000000 in
theorem rmpck_r (l : Launch) (Z : State) (a0 : Array Value) (hw : ∀ d ∈ tables_1, d.before a0 Z = true) (ws : List Jvm.Cond) (p1 : Int32) (p2 : Int32) (a3 : Addr) (h0 : Heap) (n0 : Nat) (Z0 : n0 ≤ h0.size) (h1 : (¬ p1 < (0 : Int32))) (h2 : (p1 < p2)) :
    MetFree l own_m22 (head1 (Jvm.Cond.code own_m22 jdk_41_method_11_code 3 (some .int) :: ws) (own_r 0 0 0 0)) (fun a U => a = #[(.int p1), (.int p2), (.ref a3)] ∧ Z.Warmed39 U.vm ∧ U.heap = h0) (fun _ _ _ _ _ => True) (fun _ U o U' => ∃ v L, o = .returned v ∧ Qpck_r Z p1 p2 a3 h0 n0 v U'.heap L ∧ FrameEnd U o U' L (own_r 0 0 0 0).cells (own_r 0 0 0 0).slots) := by
  refine MetFree.of_bodySF (plainFor_of_name pn_15) hisR ?_
  intro p e s m args below meth c s₁ Bd hml0 hP hK
  obtain ⟨rfl, hZ, hh⟩ := hP
  have hx := Bd.exec
  have hby := Bd.bytes
  have hml : c.maxLocals = 3 := hml0
  have hown0 := findClass_of_methodNamed Bd.named
  have hown : s.vm.findClass "jdk/internal/util/Preconditions" = some m.cls := hown0
  have hnm := (name_of_methodNamed Bd.named Bd.method).1
  have X0 : Stand p l e (own_r 0 0 0 0) s m #[(.int p1), (.int p2), (.ref a3)] below meth c s₁ [] 0 0 := Stand.of_body Bd
  have e0 : s₁.heap = h0 := by rw [← hh, Bd.state]; rfl
  have N0 := Fr.nil n0
  obtain ⟨S0, hS0⟩ : ∃ z, z = s₁.setTop (entryFrame m #[(.int p1), (.int p2), (.ref a3)] 3) := ⟨_, rfl⟩
  have pre0 : own_Go p e below S0 (s₁.setTop (mkF m 0 #[.val (.int p1), .val (.int p2), .val (.ref a3)] [])) := fun t k => by rw [hS0]; exact castTop (ef_pck_r m p1 p2 a3) k
  have fin : ∀ t, Steps p.tables e below S0 t → Steps p.tables e below (s₁.setTop (entryFrame m #[(.int p1), (.int p2), (.ref a3)] 3)) t := fun t k => by rw [hS0] at k; exact k
  have pre1 : own_Go p e below S0 (s₁.setTop (mkF m 17 #[.val (.int p1), .val (.int p2), .val (.ref a3)] [(.int p1)])) := by
    intro t kt
    refine pre0 t ?_
    refine XS.iloadN X0.here hx rfl (hb hby d15_0) rfl ?_
    refine XS.ifNo X0.here hx rfl (hb hby d15_1) rfl ((if0 _ _).trans (flt h1).1) ?_
    refine XS.iloadN X0.here hx rfl (hb hby d15_4) rfl ?_
    refine XS.iloadN X0.here hx rfl (hb hby d15_5) rfl ?_
    refine XS.icmpYes X0.here hx rfl (pc0 := 6) (pc' := 16) rfl (hb hby d15_6) rfl (tlt h2).1 (by decide) (by decide) ?_
    refine XS.iloadN X0.here hx rfl (hb hby d15_16) rfl ?_
    show Steps p.tables e below (s₁.setTop (mkF m 17 #[.val (.int p1), .val (.int p2), .val (.ref a3)] [(.int p1)])) _
    exact kt
  obtain ⟨fs, hr, hrun, hended, hW, hsame⟩ := X0.leave (v := some (.int p1)) (fun h => by rw [Bd.returns] at h; cases h)
  refine ⟨_, _, fin _ (pre1 _ ?_), hrun, hended, _, _, rfl, ?_, ⟨_, rfl⟩, hW, hsame.mono (by decide) (by decide)⟩
  · exact retI X0 hx Bd.returns (hb hby d15_17) hr
  · show Qpck_r Z p1 p2 a3 h0 n0 _ s₁.heap _
    rw [e0]
    exact ⟨rfl, N0, rfl⟩

theorem d14_0 : decode jdk_42_method_155_code 0 = .ok (.iload_n 0, 1) := by decide +kernel
theorem d14_1 : decode jdk_42_method_155_code 1 = .ok (.iload_n 1, 1) := by decide +kernel
theorem d14_2 : decode jdk_42_method_155_code 2 = .ok (.getstatic 1053, 3) := by decide +kernel
theorem d14_5 : decode jdk_42_method_155_code 5 = .ok (.invokestatic 1059, 3) := by decide +kernel
theorem d14_8 : decode jdk_42_method_155_code 8 = .ok (.pop, 1) := by decide +kernel
theorem d14_9 : decode jdk_42_method_155_code 9 = .ok (.return_, 1) := by decide +kernel
theorem pn_14 : plainName "java/lang/String" = true := by first | (simp [plainName, overriddenIn]; done) | decide +kernel
theorem pd_9 : parseMethodDescriptor "(IILjava/util/function/BiFunction;)I" = some ⟨[.int, .int, (.object "java/util/function/BiFunction")], some .int⟩ := by decide +kernel
theorem ef_sck (m : MethodId) (x0 : Int32) (x1 : Int32) : entryFrame m #[(.int x0), (.int x1)] 2 = mkF m 0 #[.val (.int x0), .val (.int x1)] [] := by first | (simp [entryFrame, mkF, argsToLocals, Value.category]; done) | rfl
def Qsck (Z : State) (p1 : Int32) (p2 : Int32) (wF : Value) (h0 : Heap) (n0 : Nat) (v : Option Value) (h : Heap) (L : List Loc) : Prop := v = none ∧ Fr n0 L ∧ h = h0
set_option maxRecDepth 65536 in
set_option maxHeartbeats 40000000 in
theorem rmsck (l : Launch) (Z : State) (a0 : Array Value) (hw : ∀ d ∈ tables_1, d.before a0 Z = true) (ws : List Jvm.Cond) (p1 : Int32) (p2 : Int32) (wF : Value) (h0 : Heap) (n0 : Nat) (Z0 : n0 ≤ h0.size) (O0 : Old Z n0 h0) (qF : (own_SF Z wF)) (h1 : (¬ p1 < (0 : Int32))) (h2 : (p1 < p2)) :
    MetFree l own_m6 (head1 (Jvm.Cond.code own_m6 jdk_42_method_155_code 2 none :: ws) (own_r 1 0 0 14)) (fun a U => a = #[(.int p1), (.int p2)] ∧ Z.Warmed39 U.vm ∧ U.heap = h0) (fun _ _ _ _ _ => True) (fun _ U o U' => ∃ v L, o = .returned v ∧ Qsck Z p1 p2 wF h0 n0 v U'.heap L ∧ FrameEnd U o U' L (own_r 1 0 0 14).cells (own_r 1 0 0 14).slots) := by
  refine MetFree.of_bodySF (plainFor_of_name pn_14) hisR ?_
  intro p e s m args below meth c s₁ Bd hml0 hP hK
  obtain ⟨rfl, hZ, hh⟩ := hP
  have hx := Bd.exec
  have hby := Bd.bytes
  have hml : c.maxLocals = 2 := hml0
  have hown0 := findClass_of_methodNamed Bd.named
  have hown : s.vm.findClass "java/lang/String" = some m.cls := hown0
  have hnm := (name_of_methodNamed Bd.named Bd.method).1
  have X0 : Stand p l e (own_r 1 0 0 14) s m #[(.int p1), (.int p2)] below meth c s₁ [] 0 0 := Stand.of_body Bd
  have e0 : s₁.heap = h0 := by rw [← hh, Bd.state]; rfl
  have N0 := Fr.nil n0
  obtain ⟨S0, hS0⟩ : ∃ z, z = s₁.setTop (entryFrame m #[(.int p1), (.int p2)] 2) := ⟨_, rfl⟩
  have pre0 : own_Go p e below S0 (s₁.setTop (mkF m 0 #[.val (.int p1), .val (.int p2)] [])) := fun t k => by rw [hS0]; exact castTop (ef_sck m p1 p2) k
  have fin : ∀ t, Steps p.tables e below S0 t → Steps p.tables e below (s₁.setTop (entryFrame m #[(.int p1), (.int p2)] 2)) t := fun t k => by rw [hS0] at k; exact k
  have pre1 : own_Go p e below S0 (s₁.setTop (mkF m 2 #[.val (.int p1), .val (.int p2)] [(.int p2), (.int p1)])) := by
    intro t kt
    refine pre0 t ?_
    refine XS.iloadN X0.here hx rfl (hb hby d14_0) rfl ?_
    refine XS.iloadN X0.here hx rfl (hb hby d14_1) rfl ?_
    exact kt
  obtain ⟨T2, X2, e2, st2⟩ := getS2 X0 hx hZ hown (host := "") (Or.inl (hw _ (own_w 69 rfl))) Via.refl e0 (qF.1.ext O0.2) (g := (mkF m 2 #[.val (.int p1), .val (.int p2)] [(.int p2), (.int p1)])) rfl (hb hby d14_2)
  have pre3 : own_Go p e below S0 (T2.setTop (mkF m 5 #[.val (.int p1), .val (.int p2)] [wF, (.int p2), (.int p1)])) := by
    intro t kt
    refine pre1 t ?_
    refine st2 _ ?_
    exact kt
  obtain hwF | ⟨aF, hwF⟩ := ref_cases qF.2
  · have pre4 : own_Go p e below S0 (T2.setTop (mkF m 5 #[.val (.int p1), .val (.int p2)] [.null, (.int p2), (.int p1)])) := by
      intro t kt
      refine pre3 t ?_
      rw [hwF]
      exact kt
    obtain ⟨_, _, ⟨T5, L5, k5, n5⟩, -, X5, ⟨Lc5, hQ5, l5, y5, z5⟩, st5⟩ := Jvm.LawKit.callS X2 hx (y := own_m22) hown (mvT hZ (hw _ (own_w 71 rfl))) (mvT hZ (hw _ (own_w 72 rfl))) (mvT hZ (hw _ (own_w 70 rfl))) (mvT hZ (hw _ (own_w 73 rfl))) (by decide) (backOf (W := 0) (rmpck_n l Z a0 hw [] p1 p2 h0 n0 Z0 h1 h2) hZ (hw _ (own_w 73 rfl)) (hw _ (own_w 70 rfl)) (by decide) (by decide)) (g := (mkF m 5 #[.val (.int p1), .val (.int p2)] [.null, (.int p2), (.int p1)])) rfl (by rw [hml]; rfl) (argsL := [(.int p1), (.int p2), .null]) (rest := []) (lenOf pd_9 rfl) rfl (by show 2 * 0 + _ ≤ _; exact Nat.le_of_eq rfl) (hb hby d14_5) (fun _ _ => ⟨rfl, e2, (by decide : 0 + 0 ≤ _), (by decide : 0 + 0 ≤ _)⟩)
    dsimp only [Pt.U, Pt.locs, Pt.cells, Pt.slots] at X5 l5 y5 z5 st5 hQ5
    subst l5 y5 z5
    obtain ⟨rfl, Nq5, eq5⟩ := hQ5
    have N5 := Fr.app N0 Nq5
    have pre6 : own_Go p e below S0 (T5.setTop (mkF m 9 #[.val (.int p1), .val (.int p2)] [])) := by
      intro t kt
      refine pre4 t ?_
      refine st5 _ ?_
      show Steps p.tables e below (T5.setTop (mkF m 8 #[.val (.int p1), .val (.int p2)] [(.int p1)])) _
      refine XS.pop X5.here hx rfl (hb hby d14_8) rfl rfl ?_
      exact kt
    obtain ⟨fs, hr, hrun, hended, hW, hsame⟩ := X5.leave (v := none) (fun _ => rfl)
    refine ⟨_, _, fin _ (pre6 _ ?_), hrun, hended, _, _, rfl, ?_, ⟨_, rfl⟩, hW, hsame.mono (by decide) (by decide)⟩
    · exact X5.returnOut hx Bd.returns (hb hby d14_9) hr
    · show Qsck Z p1 p2 wF h0 n0 _ T5.heap _
      rw [eq5]
      exact ⟨rfl, N5, rfl⟩
  · have pre7 : own_Go p e below S0 (T2.setTop (mkF m 5 #[.val (.int p1), .val (.int p2)] [(.ref aF), (.int p2), (.int p1)])) := by
      intro t kt
      refine pre3 t ?_
      rw [hwF]
      exact kt
    obtain ⟨_, _, ⟨T8, L8, k8, n8⟩, -, X8, ⟨Lc8, hQ8, l8, y8, z8⟩, st8⟩ := Jvm.LawKit.callS X2 hx (y := own_m22) hown (mvT hZ (hw _ (own_w 71 rfl))) (mvT hZ (hw _ (own_w 72 rfl))) (mvT hZ (hw _ (own_w 70 rfl))) (mvT hZ (hw _ (own_w 73 rfl))) (by decide) (backOf (W := 0) (rmpck_r l Z a0 hw [] p1 p2 aF h0 n0 Z0 h1 h2) hZ (hw _ (own_w 73 rfl)) (hw _ (own_w 70 rfl)) (by decide) (by decide)) (g := (mkF m 5 #[.val (.int p1), .val (.int p2)] [(.ref aF), (.int p2), (.int p1)])) rfl (by rw [hml]; rfl) (argsL := [(.int p1), (.int p2), (.ref aF)]) (rest := []) (lenOf pd_9 rfl) rfl (by show 2 * 0 + _ ≤ _; exact Nat.le_of_eq rfl) (hb hby d14_5) (fun _ _ => ⟨rfl, e2, (by decide : 0 + 0 ≤ _), (by decide : 0 + 0 ≤ _)⟩)
    dsimp only [Pt.U, Pt.locs, Pt.cells, Pt.slots] at X8 l8 y8 z8 st8 hQ8
    subst l8 y8 z8
    obtain ⟨rfl, Nq8, eq8⟩ := hQ8
    have N8 := Fr.app N0 Nq8
    have pre9 : own_Go p e below S0 (T8.setTop (mkF m 9 #[.val (.int p1), .val (.int p2)] [])) := by
      intro t kt
      refine pre7 t ?_
      refine st8 _ ?_
      show Steps p.tables e below (T8.setTop (mkF m 8 #[.val (.int p1), .val (.int p2)] [(.int p1)])) _
      refine XS.pop X8.here hx rfl (hb hby d14_8) rfl rfl ?_
      exact kt
    obtain ⟨fs, hr, hrun, hended, hW, hsame⟩ := X8.leave (v := none) (fun _ => rfl)
    refine ⟨_, _, fin _ (pre9 _ ?_), hrun, hended, _, _, rfl, ?_, ⟨_, rfl⟩, hW, hsame.mono (by decide) (by decide)⟩
    · exact X8.returnOut hx Bd.returns (hb hby d14_9) hr
    · show Qsck Z p1 p2 wF h0 n0 _ T8.heap _
      rw [eq8]
      exact ⟨rfl, N8, rfl⟩

theorem d13_0 : decode jdk_43_method_2_code 0 = .ok (.iload_n 1, 1) := by decide +kernel
theorem d13_1 : decode jdk_43_method_2_code 1 = .ok (.aload_n 0, 1) := by decide +kernel
theorem d13_2 : decode jdk_43_method_2_code 2 = .ok (.arraylength, 1) := by decide +kernel
theorem d13_3 : decode jdk_43_method_2_code 3 = .ok (.invokestatic 9, 3) := by decide +kernel
theorem d13_6 : decode jdk_43_method_2_code 6 = .ok (.aload_n 0, 1) := by decide +kernel
theorem d13_7 : decode jdk_43_method_2_code 7 = .ok (.iload_n 1, 1) := by decide +kernel
theorem d13_8 : decode jdk_43_method_2_code 8 = .ok (.baload, 1) := by decide +kernel
theorem d13_9 : decode jdk_43_method_2_code 9 = .ok (.sipush 255, 3) := by decide +kernel
theorem d13_12 : decode jdk_43_method_2_code 12 = .ok (.iand, 1) := by decide +kernel
theorem d13_13 : decode jdk_43_method_2_code 13 = .ok (.i2c, 1) := by decide +kernel
theorem d13_14 : decode jdk_43_method_2_code 14 = .ok (.ireturn, 1) := by decide +kernel
theorem pn_13 : plainName "java/lang/StringLatin1" = true := by first | (simp [plainName, overriddenIn]; done) | decide +kernel
theorem pd_10 : parseMethodDescriptor "(II)V" = some ⟨[.int, .int], none⟩ := by decide +kernel
theorem ef_l1at (m : MethodId) (x0 : Addr) (x1 : Int32) : entryFrame m #[(.ref x0), (.int x1)] 2 = mkF m 0 #[.val (.ref x0), .val (.int x1)] [] := by first | (simp [entryFrame, mkF, argsToLocals, Value.category]; done) | rfl
def Ql1at (Z : State) (a1 : Addr) (p2 : Int32) (wF : Value) (k1 : ClassId) (z1 : Int32) (vs : List Value) (d1 : Value) (u : Int32) (h0 : Heap) (n0 : Nat) (v : Option Value) (h : Heap) (L : List Loc) : Prop := v = (some (.int (own_lc u))) ∧ Fr n0 L ∧ h = h0
set_option maxRecDepth 65536 in
set_option maxHeartbeats 40000000 in
theorem rml1at (l : Launch) (Z : State) (a0 : Array Value) (hw : ∀ d ∈ tables_1, d.before a0 Z = true) (ws : List Jvm.Cond) (a1 : Addr) (p2 : Int32) (wF : Value) (k1 : ClassId) (z1 : Int32) (vs : List Value) (d1 : Value) (u : Int32) (h0 : Heap) (n0 : Nat) (Z0 : n0 ≤ h0.size) (O0 : Old Z n0 h0) (qF : (own_SF Z wF)) (V1 : Arv Z h0 a1 k1 .byte z1 vs d1) (h1 : (¬ p2 < (0 : Int32))) (h2 : (p2 < z1)) (hg : (vs.getD p2.toNatClampNeg d1 = .int u)) :
    MetFree l own_m10 (head1 (Jvm.Cond.code own_m10 jdk_43_method_2_code 2 (some .char) :: ws) (own_r 2 0 0 27)) (fun a U => a = #[(.ref a1), (.int p2)] ∧ Z.Warmed39 U.vm ∧ U.heap = h0) (fun _ _ _ _ _ => True) (fun _ U o U' => ∃ v L, o = .returned v ∧ Ql1at Z a1 p2 wF k1 z1 vs d1 u h0 n0 v U'.heap L ∧ FrameEnd U o U' L (own_r 2 0 0 27).cells (own_r 2 0 0 27).slots) := by
  refine MetFree.of_bodySF (plainFor_of_name pn_13) hisR ?_
  intro p e s m args below meth c s₁ Bd hml0 hP hK
  obtain ⟨rfl, hZ, hh⟩ := hP
  have hx := Bd.exec
  have hby := Bd.bytes
  have hml : c.maxLocals = 2 := hml0
  have hown0 := findClass_of_methodNamed Bd.named
  have hown : s.vm.findClass "java/lang/StringLatin1" = some m.cls := hown0
  have hnm := (name_of_methodNamed Bd.named Bd.method).1
  have X0 : Stand p l e (own_r 2 0 0 27) s m #[(.ref a1), (.int p2)] below meth c s₁ [] 0 0 := Stand.of_body Bd
  have e0 : s₁.heap = h0 := by rw [← hh, Bd.state]; rfl
  have N0 := Fr.nil n0
  obtain ⟨S0, hS0⟩ : ∃ z, z = s₁.setTop (entryFrame m #[(.ref a1), (.int p2)] 2) := ⟨_, rfl⟩
  have pre0 : own_Go p e below S0 (s₁.setTop (mkF m 0 #[.val (.ref a1), .val (.int p2)] [])) := fun t k => by rw [hS0]; exact castTop (ef_l1at m a1 p2) k
  have fin : ∀ t, Steps p.tables e below S0 t → Steps p.tables e below (s₁.setTop (entryFrame m #[(.ref a1), (.int p2)] 2)) t := fun t k => by rw [hS0] at k; exact k
  have pre1 : own_Go p e below S0 (s₁.setTop (mkF m 2 #[.val (.ref a1), .val (.int p2)] [(.ref a1), (.int p2)])) := by
    intro t kt
    refine pre0 t ?_
    refine XS.iloadN X0.here hx rfl (hb hby d13_0) rfl ?_
    refine XS.aloadN X0.here hx rfl (hb hby d13_1) rfl rfl ?_
    exact kt
  obtain ⟨cl2, Ar2, -, Sz2, Ng2, -, -⟩ := id V1
  have pre3 : own_Go p e below S0 (s₁.setTop (mkF m 3 #[.val (.ref a1), .val (.int p2)] [(.int z1), (.int p2)])) := by
    intro t kt
    refine pre1 t ?_
    refine X0.arraylength hx (by rw [e0]; exact Ar2.1) (State.isArrayOf_alike hZ.alike Ar2.2.1) (g := (mkF m 2 #[.val (.ref a1), .val (.int p2)] [(.ref a1), (.int p2)])) rfl rfl (hb hby d13_2) _ ?_
    rw [len_of Sz2 Ng2]
    show Steps p.tables e below (s₁.setTop (mkF m 3 #[.val (.ref a1), .val (.int p2)] [(.int z1), (.int p2)])) _
    exact kt
  obtain ⟨_, _, ⟨T4, L4, k4, n4⟩, -, X4, ⟨Lc4, hQ4, l4, y4, z4⟩, st4⟩ := Jvm.LawKit.callS X0 hx (y := own_m6) hown (mvT hZ (hw _ (own_w 66 rfl))) (mvT hZ (hw _ (own_w 67 rfl))) (mvT hZ (hw _ (own_w 4 rfl))) (mvT hZ (hw _ (own_w 68 rfl))) (by decide) (backOf (W := 0) (rmsck l Z a0 hw [] p2 z1 wF h0 n0 Z0 O0 qF h1 h2) hZ (hw _ (own_w 68 rfl)) (hw _ (own_w 4 rfl)) (by decide) (by decide)) (g := (mkF m 3 #[.val (.ref a1), .val (.int p2)] [(.int z1), (.int p2)])) rfl (by rw [hml]; rfl) (argsL := [(.int p2), (.int z1)]) (rest := []) (lenOf pd_10 rfl) rfl (by show 2 * 0 + _ ≤ _; exact Nat.le_of_eq rfl) (hb hby d13_3) (fun _ _ => ⟨rfl, e0, (by decide : 0 + 0 ≤ _), (by decide : 0 + 0 ≤ _)⟩)
  dsimp only [Pt.U, Pt.locs, Pt.cells, Pt.slots] at X4 l4 y4 z4 st4 hQ4
  subst l4 y4 z4
  obtain ⟨rfl, Nq4, eq4⟩ := hQ4
  have N4 := Fr.app N0 Nq4
  have pre5 : own_Go p e below S0 (T4.setTop (mkF m 8 #[.val (.ref a1), .val (.int p2)] [(.int p2), (.ref a1)])) := by
    intro t kt
    refine pre3 t ?_
    refine st4 _ ?_
    show Steps p.tables e below (T4.setTop (mkF m 6 #[.val (.ref a1), .val (.int p2)] [])) _
    refine XS.aloadN X4.here hx rfl (hb hby d13_6) rfl rfl ?_
    refine XS.iloadN X4.here hx rfl (hb hby d13_7) rfl ?_
    exact kt
  obtain ⟨cl6, Ar6, -, Sz6, -, Hs6, -⟩ := id V1
  have hin6 : ¬ (p2 < 0 ∨ cl6.slots.size ≤ (p2).toNatClampNeg) := inb_of Sz6 ⟨h1, h2⟩
  have pre7 : own_Go p e below S0 (T4.setTop (mkF m 14 #[.val (.ref a1), .val (.int p2)] [(.int ((u &&& (255 : Int32)).toUInt32.toUInt16.toUInt32.toInt32))])) := by
    intro t kt
    refine pre5 t ?_
    refine X4.baloadBytes hx (j := p2) (v := (.int u)) (by rw [eq4]; exact Ar6.1) (State.isArrayOf_alike hZ.alike Ar6.2.1) Ar6.2.2 hin6 (Hs6.at hin6 hg) (g := (mkF m 8 #[.val (.ref a1), .val (.int p2)] [(.int p2), (.ref a1)])) rfl rfl (hb hby d13_8) _ ?_
    refine XS.sipush X4.here hx rfl (hb hby d13_9) ?_
    refine XS.iand X4.here hx rfl (hb hby d13_12) rfl ?_
    refine XS.i2c X4.here hx rfl (hb hby d13_13) rfl ?_
    exact kt
  obtain ⟨fs, hr, hrun, hended, hW, hsame⟩ := X4.leave (v := some (.int (nar .char ((u &&& (255 : Int32)).toUInt32.toUInt16.toUInt32.toInt32)))) (fun h => by rw [Bd.returns] at h; cases h)
  refine ⟨_, _, fin _ (pre7 _ ?_), hrun, hended, _, _, rfl, ?_, ⟨_, rfl⟩, hW, hsame.mono (by decide) (by decide)⟩
  · exact retN X4 hx (t := .char) Bd.returns (by simp) (hb hby d13_14) hr
  · show Ql1at Z a1 p2 wF k1 z1 vs d1 u h0 n0 _ T4.heap _
    rw [eq4]
    exact ⟨rfl, N4, rfl⟩

theorem d24_0 : decode jdk_52_method_6_code 0 = .ok (.aload_n 0, 1) := by decide +kernel
theorem d24_1 : decode jdk_52_method_6_code 1 = .ok (.arraylength, 1) := by decide +kernel
theorem d24_2 : decode jdk_52_method_6_code 2 = .ok (.iconst 1, 1) := by decide +kernel
theorem d24_3 : decode jdk_52_method_6_code 3 = .ok (.ishr, 1) := by decide +kernel
theorem d24_4 : decode jdk_52_method_6_code 4 = .ok (.ireturn, 1) := by decide +kernel
theorem pn_24 : plainName "java/lang/StringUTF16" = true := by first | (simp [plainName, overriddenIn]; done) | decide +kernel
theorem ef_u16len (m : MethodId) (x0 : Addr) : entryFrame m #[(.ref x0)] 1 = mkF m 0 #[.val (.ref x0)] [] := by first | (simp [entryFrame, mkF, argsToLocals, Value.category]; done) | rfl
def Qu16len (Z : State) (a1 : Addr) (k1 : ClassId) (z1 : Int32) (vs : List Value) (d1 : Value) (h0 : Heap) (n0 : Nat) (v : Option Value) (h : Heap) (L : List Loc) : Prop := v = (some (.int (z1 >>> ((1 : Int32) &&& 31)))) ∧ Fr n0 L ∧ h = h0
set_option maxRecDepth 65536 in
set_option maxHeartbeats 40000000 in
theorem rmu16len (l : Launch) (Z : State) (a0 : Array Value) (hw : ∀ d ∈ tables_1, d.before a0 Z = true) (ws : List Jvm.Cond) (a1 : Addr) (k1 : ClassId) (z1 : Int32) (vs : List Value) (d1 : Value) (h0 : Heap) (n0 : Nat) (Z0 : n0 ≤ h0.size) (V1 : Arv Z h0 a1 k1 .byte z1 vs d1) :
    MetFree l own_m17 (head1 (Jvm.Cond.code own_m17 jdk_52_method_6_code 1 (some .int) :: ws) (own_r 0 0 0 0)) (fun a U => a = #[(.ref a1)] ∧ Z.Warmed39 U.vm ∧ U.heap = h0) (fun _ _ _ _ _ => True) (fun _ U o U' => ∃ v L, o = .returned v ∧ Qu16len Z a1 k1 z1 vs d1 h0 n0 v U'.heap L ∧ FrameEnd U o U' L (own_r 0 0 0 0).cells (own_r 0 0 0 0).slots) := by
  refine MetFree.of_bodySF (plainFor_of_name pn_24) hisR ?_
  intro p e s m args below meth c s₁ Bd hml0 hP hK
  obtain ⟨rfl, hZ, hh⟩ := hP
  have hx := Bd.exec
  have hby := Bd.bytes
  have hml : c.maxLocals = 1 := hml0
  have hown0 := findClass_of_methodNamed Bd.named
  have hown : s.vm.findClass "java/lang/StringUTF16" = some m.cls := hown0
  have hnm := (name_of_methodNamed Bd.named Bd.method).1
  have X0 : Stand p l e (own_r 0 0 0 0) s m #[(.ref a1)] below meth c s₁ [] 0 0 := Stand.of_body Bd
  have e0 : s₁.heap = h0 := by rw [← hh, Bd.state]; rfl
  have N0 := Fr.nil n0
  obtain ⟨S0, hS0⟩ : ∃ z, z = s₁.setTop (entryFrame m #[(.ref a1)] 1) := ⟨_, rfl⟩
  have pre0 : own_Go p e below S0 (s₁.setTop (mkF m 0 #[.val (.ref a1)] [])) := fun t k => by rw [hS0]; exact castTop (ef_u16len m a1) k
  have fin : ∀ t, Steps p.tables e below S0 t → Steps p.tables e below (s₁.setTop (entryFrame m #[(.ref a1)] 1)) t := fun t k => by rw [hS0] at k; exact k
  have pre1 : own_Go p e below S0 (s₁.setTop (mkF m 1 #[.val (.ref a1)] [(.ref a1)])) := by
    intro t kt
    refine pre0 t ?_
    refine XS.aloadN X0.here hx rfl (hb hby d24_0) rfl rfl ?_
    exact kt
  obtain ⟨cl2, Ar2, -, Sz2, Ng2, -, -⟩ := id V1
  have pre3 : own_Go p e below S0 (s₁.setTop (mkF m 4 #[.val (.ref a1)] [(.int (z1 >>> ((1 : Int32) &&& 31)))])) := by
    intro t kt
    refine pre1 t ?_
    refine X0.arraylength hx (by rw [e0]; exact Ar2.1) (State.isArrayOf_alike hZ.alike Ar2.2.1) (g := (mkF m 1 #[.val (.ref a1)] [(.ref a1)])) rfl rfl (hb hby d24_1) _ ?_
    rw [len_of Sz2 Ng2]
    show Steps p.tables e below (s₁.setTop (mkF m 2 #[.val (.ref a1)] [(.int z1)])) _
    refine XS.iconst X0.here hx rfl (hb hby d24_2) ?_
    refine XS.ishr X0.here hx rfl (hb hby d24_3) rfl ?_
    exact kt
  obtain ⟨fs, hr, hrun, hended, hW, hsame⟩ := X0.leave (v := some (.int (z1 >>> ((1 : Int32) &&& 31)))) (fun h => by rw [Bd.returns] at h; cases h)
  refine ⟨_, _, fin _ (pre3 _ ?_), hrun, hended, _, _, rfl, ?_, ⟨_, rfl⟩, hW, hsame.mono (by decide) (by decide)⟩
  · exact retI X0 hx Bd.returns (hb hby d24_4) hr
  · show Qu16len Z a1 k1 z1 vs d1 h0 n0 _ s₁.heap _
    rw [e0]
    exact ⟨rfl, N0, rfl⟩

theorem d23_0 : decode jdk_52_method_91_code 0 = .ok (.iload_n 0, 1) := by decide +kernel
theorem d23_1 : decode jdk_52_method_91_code 1 = .ok (.aload_n 1, 1) := by decide +kernel
theorem d23_2 : decode jdk_52_method_91_code 2 = .ok (.invokestatic 48, 3) := by decide +kernel
theorem d23_5 : decode jdk_52_method_91_code 5 = .ok (.invokestatic 414, 3) := by decide +kernel
theorem d23_8 : decode jdk_52_method_91_code 8 = .ok (.return_, 1) := by decide +kernel
theorem pn_23 : plainName "java/lang/StringUTF16" = true := by first | (simp [plainName, overriddenIn]; done) | decide +kernel
theorem pd_11 : parseMethodDescriptor "([B)I" = some ⟨[(.array .byte)], some .int⟩ := by decide +kernel
theorem ef_u16ck (m : MethodId) (x0 : Int32) (x1 : Addr) : entryFrame m #[(.int x0), (.ref x1)] 2 = mkF m 0 #[.val (.int x0), .val (.ref x1)] [] := by first | (simp [entryFrame, mkF, argsToLocals, Value.category]; done) | rfl
def Qu16ck (Z : State) (p1 : Int32) (a2 : Addr) (wF : Value) (k1 : ClassId) (z1 : Int32) (vs : List Value) (d1 : Value) (h0 : Heap) (n0 : Nat) (v : Option Value) (h : Heap) (L : List Loc) : Prop := v = none ∧ Fr n0 L ∧ h = h0
set_option maxRecDepth 65536 in
set_option maxHeartbeats 40000000 in
theorem rmu16ck (l : Launch) (Z : State) (a0 : Array Value) (hw : ∀ d ∈ tables_1, d.before a0 Z = true) (ws : List Jvm.Cond) (p1 : Int32) (a2 : Addr) (wF : Value) (k1 : ClassId) (z1 : Int32) (vs : List Value) (d1 : Value) (h0 : Heap) (n0 : Nat) (Z0 : n0 ≤ h0.size) (O0 : Old Z n0 h0) (qF : (own_SF Z wF)) (V1 : Arv Z h0 a2 k1 .byte z1 vs d1) (h1 : (¬ p1 < (0 : Int32))) (h2 : (p1 < (z1 >>> ((1 : Int32) &&& 31)))) :
    MetFree l own_m12 (head1 (Jvm.Cond.code own_m12 jdk_52_method_91_code 2 none :: ws) (own_r 2 0 0 27)) (fun a U => a = #[(.int p1), (.ref a2)] ∧ Z.Warmed39 U.vm ∧ U.heap = h0) (fun _ _ _ _ _ => True) (fun _ U o U' => ∃ v L, o = .returned v ∧ Qu16ck Z p1 a2 wF k1 z1 vs d1 h0 n0 v U'.heap L ∧ FrameEnd U o U' L (own_r 2 0 0 27).cells (own_r 2 0 0 27).slots) := by
  refine MetFree.of_bodySF (plainFor_of_name pn_23) hisR ?_
  intro p e s m args below meth c s₁ Bd hml0 hP hK
  obtain ⟨rfl, hZ, hh⟩ := hP
  have hx := Bd.exec
  have hby := Bd.bytes
  have hml : c.maxLocals = 2 := hml0
  have hown0 := findClass_of_methodNamed Bd.named
  have hown : s.vm.findClass "java/lang/StringUTF16" = some m.cls := hown0
  have hnm := (name_of_methodNamed Bd.named Bd.method).1
  have X0 : Stand p l e (own_r 2 0 0 27) s m #[(.int p1), (.ref a2)] below meth c s₁ [] 0 0 := Stand.of_body Bd
  have e0 : s₁.heap = h0 := by rw [← hh, Bd.state]; rfl
  have N0 := Fr.nil n0
  obtain ⟨S0, hS0⟩ : ∃ z, z = s₁.setTop (entryFrame m #[(.int p1), (.ref a2)] 2) := ⟨_, rfl⟩
  have pre0 : own_Go p e below S0 (s₁.setTop (mkF m 0 #[.val (.int p1), .val (.ref a2)] [])) := fun t k => by rw [hS0]; exact castTop (ef_u16ck m p1 a2) k
  have fin : ∀ t, Steps p.tables e below S0 t → Steps p.tables e below (s₁.setTop (entryFrame m #[(.int p1), (.ref a2)] 2)) t := fun t k => by rw [hS0] at k; exact k
  have pre1 : own_Go p e below S0 (s₁.setTop (mkF m 2 #[.val (.int p1), .val (.ref a2)] [(.ref a2), (.int p1)])) := by
    intro t kt
    refine pre0 t ?_
    refine XS.iloadN X0.here hx rfl (hb hby d23_0) rfl ?_
    refine XS.aloadN X0.here hx rfl (hb hby d23_1) rfl rfl ?_
    exact kt
  obtain ⟨_, _, ⟨T2, L2, k2, n2⟩, -, X2, ⟨Lc2, hQ2, l2, y2, z2⟩, st2⟩ := Jvm.LawKit.callS X0 hx (y := own_m17) hown (mvT hZ (hw _ (own_w 102 rfl))) (mvT hZ (hw _ (own_w 103 rfl))) (mvT hZ (hw _ (own_w 40 rfl))) (mvT hZ (hw _ (own_w 104 rfl))) (by decide) (backOf (W := 1) (rmu16len l Z a0 hw [] a2 k1 z1 vs d1 h0 n0 Z0 V1) hZ (hw _ (own_w 104 rfl)) (hw _ (own_w 40 rfl)) (by decide) (by decide)) (g := (mkF m 2 #[.val (.int p1), .val (.ref a2)] [(.ref a2), (.int p1)])) rfl (by rw [hml]; rfl) (argsL := [(.ref a2)]) (rest := [(.int p1)]) (lenOf pd_11 rfl) rfl (by show 2 * 0 + _ ≤ _; exact Nat.le_of_eq rfl) (hb hby d23_2) (fun _ _ => ⟨rfl, e0, (by decide : 0 + 0 ≤ _), (by decide : 0 + 0 ≤ _)⟩)
  dsimp only [Pt.U, Pt.locs, Pt.cells, Pt.slots] at X2 l2 y2 z2 st2 hQ2
  subst l2 y2 z2
  obtain ⟨rfl, Nq2, eq2⟩ := hQ2
  have N2 := Fr.app N0 Nq2
  have pre3 : own_Go p e below S0 (T2.setTop (mkF m 5 #[.val (.int p1), .val (.ref a2)] [(.int (z1 >>> ((1 : Int32) &&& 31))), (.int p1)])) := by
    intro t kt
    refine pre1 t ?_
    refine st2 _ ?_
    show Steps p.tables e below (T2.setTop (mkF m 5 #[.val (.int p1), .val (.ref a2)] [(.int (z1 >>> ((1 : Int32) &&& 31))), (.int p1)])) _
    exact kt
  obtain ⟨_, _, ⟨T4, L4, k4, n4⟩, -, X4, ⟨Lc4, hQ4, l4, y4, z4⟩, st4⟩ := Jvm.LawKit.callS X2 hx (y := own_m6) hown (mvT hZ (hw _ (own_w 105 rfl))) (mvT hZ (hw _ (own_w 67 rfl))) (mvT hZ (hw _ (own_w 4 rfl))) (mvT hZ (hw _ (own_w 68 rfl))) (by decide) (backOf (W := 0) (rmsck l Z a0 hw [] p1 (z1 >>> ((1 : Int32) &&& 31)) wF h0 n0 Z0 O0 qF h1 h2) hZ (hw _ (own_w 68 rfl)) (hw _ (own_w 4 rfl)) (by decide) (by decide)) (g := (mkF m 5 #[.val (.int p1), .val (.ref a2)] [(.int (z1 >>> ((1 : Int32) &&& 31))), (.int p1)])) rfl (by rw [hml]; rfl) (argsL := [(.int p1), (.int (z1 >>> ((1 : Int32) &&& 31)))]) (rest := []) (lenOf pd_10 rfl) rfl (by show 2 * 0 + _ ≤ _; exact Nat.le_of_eq rfl) (hb hby d23_5) (fun _ _ => ⟨rfl, eq2, (by decide : 0 + 0 ≤ _), (by decide : 0 + 0 ≤ _)⟩)
  dsimp only [Pt.U, Pt.locs, Pt.cells, Pt.slots] at X4 l4 y4 z4 st4 hQ4
  subst l4 y4 z4
  obtain ⟨rfl, Nq4, eq4⟩ := hQ4
  have N4 := Fr.app N2 Nq4
  have pre5 : own_Go p e below S0 (T4.setTop (mkF m 8 #[.val (.int p1), .val (.ref a2)] [])) := by
    intro t kt
    refine pre3 t ?_
    refine st4 _ ?_
    show Steps p.tables e below (T4.setTop (mkF m 8 #[.val (.int p1), .val (.ref a2)] [])) _
    exact kt
  obtain ⟨fs, hr, hrun, hended, hW, hsame⟩ := X4.leave (v := none) (fun _ => rfl)
  refine ⟨_, _, fin _ (pre5 _ ?_), hrun, hended, _, _, rfl, ?_, ⟨_, rfl⟩, hW, hsame.mono (by decide) (by decide)⟩
  · exact X4.returnOut hx Bd.returns (hb hby d23_8) hr
  · show Qu16ck Z p1 a2 wF k1 z1 vs d1 h0 n0 _ T4.heap _
    rw [eq4]
    exact ⟨rfl, N4, rfl⟩

theorem d22_0 : decode jdk_52_method_83_code 0 = .ok (.iload_n 1, 1) := by decide +kernel
theorem d22_1 : decode jdk_52_method_83_code 1 = .ok (.aload_n 0, 1) := by decide +kernel
theorem d22_2 : decode jdk_52_method_83_code 2 = .ok (.invokestatic 67, 3) := by decide +kernel
theorem d22_5 : decode jdk_52_method_83_code 5 = .ok (.aload_n 0, 1) := by decide +kernel
theorem d22_6 : decode jdk_52_method_83_code 6 = .ok (.iload_n 1, 1) := by decide +kernel
theorem d22_7 : decode jdk_52_method_83_code 7 = .ok (.invokestatic 71, 3) := by decide +kernel
theorem d22_10 : decode jdk_52_method_83_code 10 = .ok (.ireturn, 1) := by decide +kernel
theorem pn_22 : plainName "java/lang/StringUTF16" = true := by first | (simp [plainName, overriddenIn]; done) | decide +kernel
theorem pd_12 : parseMethodDescriptor "(I[B)V" = some ⟨[.int, (.array .byte)], none⟩ := by decide +kernel
theorem ef_u16at (m : MethodId) (x0 : Addr) (x1 : Int32) : entryFrame m #[(.ref x0), (.int x1)] 2 = mkF m 0 #[.val (.ref x0), .val (.int x1)] [] := by first | (simp [entryFrame, mkF, argsToLocals, Value.category]; done) | rfl
def Qu16at (Z : State) (a1 : Addr) (p2 : Int32) (wF : Value) (k1 : ClassId) (z1 : Int32) (vs : List Value) (d1 : Value) (b0 : Int32) (b1 : Int32) (m0 : Nat) (m1 : Nat) (h0 : Heap) (n0 : Nat) (v : Option Value) (h : Heap) (L : List Loc) : Prop := v = (some (.int (own_gc b0 b1))) ∧ Fr n0 L ∧ h = h0
set_option maxRecDepth 65536 in
set_option maxHeartbeats 40000000 in
theorem rmu16at (l : Launch) (Z : State) (a0 : Array Value) (hw : ∀ d ∈ tables_1, d.before a0 Z = true) (ws : List Jvm.Cond) (a1 : Addr) (p2 : Int32) (wF : Value) (k1 : ClassId) (z1 : Int32) (vs : List Value) (d1 : Value) (b0 : Int32) (b1 : Int32) (m0 : Nat) (m1 : Nat) (h0 : Heap) (n0 : Nat) (Z0 : n0 ≤ h0.size) (O0 : Old Z n0 h0) (qU : (own_SU Z)) (qF : (own_SF Z wF)) (V1 : Arv Z h0 a1 k1 .byte z1 vs d1) (g0a : (¬ (p2 <<< ((1 : Int32) &&& 31)) < (0 : Int32))) (g0b : ((p2 <<< ((1 : Int32) &&& 31)) < z1)) (hm0 : ((p2 <<< ((1 : Int32) &&& 31)).toNatClampNeg = m0)) (hb0 : (vs.getD m0 d1 = .int b0)) (g1a : (¬ ((p2 <<< ((1 : Int32) &&& 31)) + (1 : Int32)) < (0 : Int32))) (g1b : (((p2 <<< ((1 : Int32) &&& 31)) + (1 : Int32)) < z1)) (hm1 : (((p2 <<< ((1 : Int32) &&& 31)) + (1 : Int32)).toNatClampNeg = m1)) (hb1 : (vs.getD m1 d1 = .int b1)) (h1 : (¬ p2 < (0 : Int32))) (h2 : (p2 < (z1 >>> ((1 : Int32) &&& 31)))) :
    MetFree l own_m11 (head1 (Jvm.Cond.code own_m11 jdk_52_method_83_code 2 (some .char) :: ws) (own_r 3 0 0 40)) (fun a U => a = #[(.ref a1), (.int p2)] ∧ Z.Warmed39 U.vm ∧ U.heap = h0) (fun _ _ _ _ _ => True) (fun _ U o U' => ∃ v L, o = .returned v ∧ Qu16at Z a1 p2 wF k1 z1 vs d1 b0 b1 m0 m1 h0 n0 v U'.heap L ∧ FrameEnd U o U' L (own_r 3 0 0 40).cells (own_r 3 0 0 40).slots) := by
  refine MetFree.of_bodySF (plainFor_of_name pn_22) hisR ?_
  intro p e s m args below meth c s₁ Bd hml0 hP hK
  obtain ⟨rfl, hZ, hh⟩ := hP
  have hx := Bd.exec
  have hby := Bd.bytes
  have hml : c.maxLocals = 2 := hml0
  have hown0 := findClass_of_methodNamed Bd.named
  have hown : s.vm.findClass "java/lang/StringUTF16" = some m.cls := hown0
  have hnm := (name_of_methodNamed Bd.named Bd.method).1
  have X0 : Stand p l e (own_r 3 0 0 40) s m #[(.ref a1), (.int p2)] below meth c s₁ [] 0 0 := Stand.of_body Bd
  have e0 : s₁.heap = h0 := by rw [← hh, Bd.state]; rfl
  have N0 := Fr.nil n0
  obtain ⟨S0, hS0⟩ : ∃ z, z = s₁.setTop (entryFrame m #[(.ref a1), (.int p2)] 2) := ⟨_, rfl⟩
  have pre0 : own_Go p e below S0 (s₁.setTop (mkF m 0 #[.val (.ref a1), .val (.int p2)] [])) := fun t k => by rw [hS0]; exact castTop (ef_u16at m a1 p2) k
  have fin : ∀ t, Steps p.tables e below S0 t → Steps p.tables e below (s₁.setTop (entryFrame m #[(.ref a1), (.int p2)] 2)) t := fun t k => by rw [hS0] at k; exact k
  have pre1 : own_Go p e below S0 (s₁.setTop (mkF m 2 #[.val (.ref a1), .val (.int p2)] [(.ref a1), (.int p2)])) := by
    intro t kt
    refine pre0 t ?_
    refine XS.iloadN X0.here hx rfl (hb hby d22_0) rfl ?_
    refine XS.aloadN X0.here hx rfl (hb hby d22_1) rfl rfl ?_
    exact kt
  obtain ⟨_, _, ⟨T2, L2, k2, n2⟩, -, X2, ⟨Lc2, hQ2, l2, y2, z2⟩, st2⟩ := Jvm.LawKit.callS X0 hx (y := own_m12) hown (mvT hZ (hw _ (own_w 99 rfl))) (mvT hZ (hw _ (own_w 100 rfl))) (mvT hZ (hw _ (own_w 40 rfl))) (mvT hZ (hw _ (own_w 101 rfl))) (by decide) (backOf (W := 0) (rmu16ck l Z a0 hw [] p2 a1 wF k1 z1 vs d1 h0 n0 Z0 O0 qF V1 h1 h2) hZ (hw _ (own_w 101 rfl)) (hw _ (own_w 40 rfl)) (by decide) (by decide)) (g := (mkF m 2 #[.val (.ref a1), .val (.int p2)] [(.ref a1), (.int p2)])) rfl (by rw [hml]; rfl) (argsL := [(.int p2), (.ref a1)]) (rest := []) (lenOf pd_12 rfl) rfl (by show 2 * 0 + _ ≤ _; exact Nat.le_of_eq rfl) (hb hby d22_2) (fun _ _ => ⟨rfl, e0, (by decide : 0 + 0 ≤ _), (by decide : 0 + 0 ≤ _)⟩)
  dsimp only [Pt.U, Pt.locs, Pt.cells, Pt.slots] at X2 l2 y2 z2 st2 hQ2
  subst l2 y2 z2
  obtain ⟨rfl, Nq2, eq2⟩ := hQ2
  have N2 := Fr.app N0 Nq2
  have pre3 : own_Go p e below S0 (T2.setTop (mkF m 7 #[.val (.ref a1), .val (.int p2)] [(.int p2), (.ref a1)])) := by
    intro t kt
    refine pre1 t ?_
    refine st2 _ ?_
    show Steps p.tables e below (T2.setTop (mkF m 5 #[.val (.ref a1), .val (.int p2)] [])) _
    refine XS.aloadN X2.here hx rfl (hb hby d22_5) rfl rfl ?_
    refine XS.iloadN X2.here hx rfl (hb hby d22_6) rfl ?_
    exact kt
  obtain ⟨_, _, ⟨T4, L4, k4, n4⟩, -, X4, ⟨Lc4, hQ4, l4, y4, z4⟩, st4⟩ := Jvm.LawKit.callS X2 hx (y := own_m16) hown (mvT hZ (hw _ (own_w 93 rfl))) (mvT hZ (hw _ (own_w 94 rfl))) (mvT hZ (hw _ (own_w 40 rfl))) (mvT hZ (hw _ (own_w 95 rfl))) (by decide) (backOf (W := 0) (rmgetc l Z a0 hw [] a1 p2 k1 z1 vs d1 b0 b1 m0 m1 h0 n0 Z0 O0 qU V1 g0a g0b hm0 hb0 g1a g1b hm1 hb1) hZ (hw _ (own_w 95 rfl)) (hw _ (own_w 40 rfl)) (by decide) (by decide)) (g := (mkF m 7 #[.val (.ref a1), .val (.int p2)] [(.int p2), (.ref a1)])) rfl (by rw [hml]; rfl) (argsL := [(.ref a1), (.int p2)]) (rest := []) (lenOf pd_7 rfl) rfl (by show 2 * 0 + _ ≤ _; exact Nat.le_of_eq rfl) (hb hby d22_7) (fun _ _ => ⟨rfl, eq2, (by decide : 0 + 0 ≤ _), (by decide : 0 + 0 ≤ _)⟩)
  dsimp only [Pt.U, Pt.locs, Pt.cells, Pt.slots] at X4 l4 y4 z4 st4 hQ4
  subst l4 y4 z4
  obtain ⟨rfl, Nq4, eq4⟩ := hQ4
  have N4 := Fr.app N2 Nq4
  have pre5 : own_Go p e below S0 (T4.setTop (mkF m 10 #[.val (.ref a1), .val (.int p2)] [(.int (own_gc b0 b1))])) := by
    intro t kt
    refine pre3 t ?_
    refine st4 _ ?_
    show Steps p.tables e below (T4.setTop (mkF m 10 #[.val (.ref a1), .val (.int p2)] [(.int (own_gc b0 b1))])) _
    exact kt
  obtain ⟨fs, hr, hrun, hended, hW, hsame⟩ := X4.leave (v := some (.int (nar .char (own_gc b0 b1)))) (fun h => by rw [Bd.returns] at h; cases h)
  refine ⟨_, _, fin _ (pre5 _ ?_), hrun, hended, _, _, rfl, ?_, ⟨_, rfl⟩, hW, hsame.mono (by decide) (by decide)⟩
  · exact retN X4 hx (t := .char) Bd.returns (by simp) (hb hby d22_10) hr
  · show Qu16at Z a1 p2 wF k1 z1 vs d1 b0 b1 m0 m1 h0 n0 _ T4.heap _
    rw [eq4]
    exact ⟨(congrArg (fun q => some (Value.int q)) (own_narChar2 _ _)), N4, rfl⟩

theorem d11_0 : decode jdk_42_method_56_code 0 = .ok (.aload_n 0, 1) := by decide +kernel
theorem d11_1 : decode jdk_42_method_56_code 1 = .ok (.invokevirtual 492, 3) := by decide +kernel
theorem d11_4 : decode jdk_42_method_56_code 4 = .ok (.ifCond .eq 12, 3) := by decide +kernel
theorem d11_7 : decode jdk_42_method_56_code 7 = .ok (.aload_n 0, 1) := by decide +kernel
theorem d11_8 : decode jdk_42_method_56_code 8 = .ok (.getfield 9, 3) := by decide +kernel
theorem d11_11 : decode jdk_42_method_56_code 11 = .ok (.iload_n 1, 1) := by decide +kernel
theorem d11_12 : decode jdk_42_method_56_code 12 = .ok (.invokestatic 495, 3) := by decide +kernel
theorem d11_15 : decode jdk_42_method_56_code 15 = .ok (.ireturn, 1) := by decide +kernel
theorem d11_16 : decode jdk_42_method_56_code 16 = .ok (.aload_n 0, 1) := by decide +kernel
theorem d11_17 : decode jdk_42_method_56_code 17 = .ok (.getfield 9, 3) := by decide +kernel
theorem d11_20 : decode jdk_42_method_56_code 20 = .ok (.iload_n 1, 1) := by decide +kernel
theorem d11_21 : decode jdk_42_method_56_code 21 = .ok (.invokestatic 498, 3) := by decide +kernel
theorem d11_24 : decode jdk_42_method_56_code 24 = .ok (.ireturn, 1) := by decide +kernel
theorem pn_11 : plainName "java/lang/String" = true := by first | (simp [plainName, overriddenIn]; done) | decide +kernel
theorem pd_13 : parseMethodDescriptor "()Z" = some ⟨[], some .boolean⟩ := by decide +kernel
theorem ef_charAt (m : MethodId) (x0 : Addr) (x1 : Int32) : entryFrame m #[(.ref x0), (.int x1)] 2 = mkF m 0 #[.val (.ref x0), .val (.int x1)] [] := by first | (simp [entryFrame, mkF, argsToLocals, Value.category]; done) | rfl
def QcharAt (Z : State) (a1 : Addr) (p2 : Int32) (wC : Int32) (wF : Value) (vb : Addr) (kb : ClassId) (cs : List Int32) (cx : Int32) (h0 : Heap) (n0 : Nat) (v : Option Value) (h : Heap) (L : List Loc) : Prop := v = (some (.int cx)) ∧ Fr n0 L ∧ h = h0
set_option maxRecDepth 65536 in
set_option maxHeartbeats 40000000 in
theorem rmcharAt (l : Launch) (Z : State) (a0 : Array Value) (hw : ∀ d ∈ tables_1, d.before a0 Z = true) (ws : List Jvm.Cond) (a1 : Addr) (p2 : Int32) (wC : Int32) (wF : Value) (vb : Addr) (kb : ClassId) (cs : List Int32) (cx : Int32) (h0 : Heap) (n0 : Nat) (Z0 : n0 ≤ h0.size) (O0 : Old Z n0 h0) (qC : (own_SC Z wC)) (qU : (own_SU Z)) (qF : (own_SF Z wF)) (hS : own_Str Z h0 a1 vb kb cs) (hn : (cs.length < 1000)) (h1 : (¬ p2 < (0 : Int32))) (h2 : (p2 < own_len cs)) (hc : (cs.getD p2.toNatClampNeg 0 = cx)) :
    MetFree l own_m5 (head1 (Jvm.Cond.code own_m5 jdk_42_method_56_code 2 (some .char) :: ws) (own_r 4 0 0 53)) (fun a U => a = #[(.ref a1), (.int p2)] ∧ Z.Warmed39 U.vm ∧ U.heap = h0) (fun _ _ _ _ _ => True) (fun _ U o U' => ∃ v L, o = .returned v ∧ QcharAt Z a1 p2 wC wF vb kb cs cx h0 n0 v U'.heap L ∧ FrameEnd U o U' L (own_r 4 0 0 53).cells (own_r 4 0 0 53).slots) := by
  refine MetFree.of_bodySF (plainFor_of_name pn_11) hisR ?_
  intro p e s m args below meth c s₁ Bd hml0 hP hK
  obtain ⟨rfl, hZ, hh⟩ := hP
  have hx := Bd.exec
  have hby := Bd.bytes
  have hml : c.maxLocals = 2 := hml0
  have hown0 := findClass_of_methodNamed Bd.named
  have hown : s.vm.findClass "java/lang/String" = some m.cls := hown0
  have hnm := (name_of_methodNamed Bd.named Bd.method).1
  have X0 : Stand p l e (own_r 4 0 0 53) s m #[(.ref a1), (.int p2)] below meth c s₁ [] 0 0 := Stand.of_body Bd
  have e0 : s₁.heap = h0 := by rw [← hh, Bd.state]; rfl
  have N0 := Fr.nil n0
  obtain ⟨S0, hS0⟩ : ∃ z, z = s₁.setTop (entryFrame m #[(.ref a1), (.int p2)] 2) := ⟨_, rfl⟩
  have pre0 : own_Go p e below S0 (s₁.setTop (mkF m 0 #[.val (.ref a1), .val (.int p2)] [])) := fun t k => by rw [hS0]; exact castTop (ef_charAt m a1 p2) k
  have fin : ∀ t, Steps p.tables e below S0 t → Steps p.tables e below (s₁.setTop (entryFrame m #[(.ref a1), (.int p2)] 2)) t := fun t k => by rw [hS0] at k; exact k
  obtain ⟨oE, oV, ⟨oK, oL, oA⟩ | ⟨oK, oL, oA⟩⟩ := hS
  · have pre1 : own_Go p e below S0 (s₁.setTop (mkF m 1 #[.val (.ref a1), .val (.int p2)] [(.ref a1)])) := by
      intro t kt
      refine pre0 t ?_
      refine XS.aloadN X0.here hx rfl (hb hby d11_0) rfl rfl ?_
      exact kt
    obtain ⟨cq2, kq2, qa2, qb2, qc2⟩ := isOf hZ e0 oE
    obtain ⟨_, _, ⟨T2, L2, k2, n2⟩, -, X2, ⟨Lc2, hQ2, l2, y2, z2⟩, st2⟩ := X0.virtualBack hx (y := own_m8) (z := own_m8) hown (mvT hZ (hw _ (own_w 57 rfl))) (mvT hZ (hw _ (own_w 58 rfl))) (notFace_of_selects (args := #[]) (mvT hZ (hw _ (own_w 60 rfl)))) (mvT hZ (hw _ (own_w 60 rfl))) (mvT hZ (hw _ (own_w 59 rfl))) (by decide) (backOf (W := 0) (rmisLat0 l Z a0 hw [] a1 wC h0 n0 Z0 O0 qC oK) hZ (hw _ (own_w 61 rfl)) (hw _ (own_w 4 rfl)) (by decide) (by decide)) qa2 qc2 (g := (mkF m 1 #[.val (.ref a1), .val (.int p2)] [(.ref a1)])) rfl (by rw [hml]; rfl) (Steps.refl _) (argsL := []) (rest := []) (lenOf pd_13 rfl) rfl (by show 2 * 0 + _ ≤ _; exact Nat.le_of_eq rfl) (hb hby d11_1) (fun _ _ => ⟨rfl, e0, (by decide : 0 + 0 ≤ _), (by decide : 0 + 0 ≤ _)⟩)
    dsimp only [Pt.U, Pt.locs, Pt.cells, Pt.slots] at X2 l2 y2 z2 st2 hQ2
    subst l2 y2 z2
    obtain ⟨rfl, Nq2, eq2⟩ := hQ2
    have N2 := Fr.app N0 Nq2
    have pre3 : own_Go p e below S0 (T2.setTop (mkF m 8 #[.val (.ref a1), .val (.int p2)] [(.ref a1)])) := by
      intro t kt
      refine pre1 t ?_
      refine st2.trans ?_
      show Steps p.tables e below (T2.setTop (mkF m 4 #[.val (.ref a1), .val (.int p2)] [(.int 1)])) _
      refine XS.ifNo X2.here hx rfl (hb hby d11_4) rfl ((if0 _ _).trans (feq (by decide : ¬ ((1 : Int32) = (0 : Int32)))).1) ?_
      refine XS.aloadN X2.here hx rfl (hb hby d11_7) rfl rfl ?_
      exact kt
    obtain ⟨T4, X4, e4, st4⟩ := getF X2 hx hZ hown (host := "") (Or.inl (hw _ (own_w 21 rfl))) Via.refl eq2 oV (g := (mkF m 8 #[.val (.ref a1), .val (.int p2)] [(.ref a1)])) rfl rfl (hb hby d11_8)
    have pre5 : own_Go p e below S0 (T4.setTop (mkF m 12 #[.val (.ref a1), .val (.int p2)] [(.int p2), (.ref vb)])) := by
      intro t kt
      refine pre3 t ?_
      refine st4 _ ?_
      refine XS.iloadN X4.here hx rfl (hb hby d11_11) rfl ?_
      exact kt
    obtain ⟨_, _, ⟨T6, L6, k6, n6⟩, -, X6, ⟨Lc6, hQ6, l6, y6, z6⟩, st6⟩ := Jvm.LawKit.callS X4 hx (y := own_m10) hown (mvT hZ (hw _ (own_w 62 rfl))) (mvT hZ (hw _ (own_w 63 rfl))) (mvT hZ (hw _ (own_w 64 rfl))) (mvT hZ (hw _ (own_w 65 rfl))) (by decide) (backOf (W := 0) (rml1at l Z a0 hw [] vb p2 wF kb (own_len cs) (cs.map own_lb) (.int 0) (nar .byte (cx.toInt8.toInt32)) h0 n0 Z0 O0 qF oA h1 h2 (own_getLat hn h1 h2 hc)) hZ (hw _ (own_w 65 rfl)) (hw _ (own_w 64 rfl)) (by decide) (by decide)) (g := (mkF m 12 #[.val (.ref a1), .val (.int p2)] [(.int p2), (.ref vb)])) rfl (by rw [hml]; rfl) (argsL := [(.ref vb), (.int p2)]) (rest := []) (lenOf pd_7 rfl) rfl (by show 2 * 0 + _ ≤ _; exact Nat.le_of_eq rfl) (hb hby d11_12) (fun _ _ => ⟨rfl, e4, (by decide : 0 + 0 ≤ _), (by decide : 0 + 0 ≤ _)⟩)
    dsimp only [Pt.U, Pt.locs, Pt.cells, Pt.slots] at X6 l6 y6 z6 st6 hQ6
    subst l6 y6 z6
    obtain ⟨rfl, Nq6, eq6⟩ := hQ6
    have N6 := Fr.app N2 Nq6
    have pre7 : own_Go p e below S0 (T6.setTop (mkF m 15 #[.val (.ref a1), .val (.int p2)] [(.int (own_lc (nar .byte (cx.toInt8.toInt32))))])) := by
      intro t kt
      refine pre5 t ?_
      refine st6 _ ?_
      show Steps p.tables e below (T6.setTop (mkF m 15 #[.val (.ref a1), .val (.int p2)] [(.int (own_lc (nar .byte (cx.toInt8.toInt32))))])) _
      exact kt
    have hl : 0 ≤ cx.toInt ∧ cx.toInt < 256 := by rw [← hc]; exact own_LatAt cs _ oL (own_ixn hn h1 h2)
    obtain ⟨fs, hr, hrun, hended, hW, hsame⟩ := X6.leave (v := some (.int (nar .char (own_lc (nar .byte (cx.toInt8.toInt32)))))) (fun h => by rw [Bd.returns] at h; cases h)
    refine ⟨_, _, fin _ (pre7 _ ?_), hrun, hended, _, _, rfl, ?_, ⟨_, rfl⟩, hW, hsame.mono (by decide) (by decide)⟩
    · exact retN X6 hx (t := .char) Bd.returns (by simp) (hb hby d11_15) hr
    · show QcharAt Z a1 p2 wC wF vb kb cs cx h0 n0 _ T6.heap _
      rw [eq6]
      exact ⟨(by show some (Value.int (nar .char _)) = _; rw [own_latget cx hl, own_narChar cx hl.1 (by omega)]), N6, rfl⟩
  · have pre8 : own_Go p e below S0 (s₁.setTop (mkF m 1 #[.val (.ref a1), .val (.int p2)] [(.ref a1)])) := by
      intro t kt
      refine pre0 t ?_
      refine XS.aloadN X0.here hx rfl (hb hby d11_0) rfl rfl ?_
      exact kt
    obtain ⟨cq9, kq9, qa9, qb9, qc9⟩ := isOf hZ e0 oE
    obtain ⟨_, _, ⟨T9, L9, k9, n9⟩, -, X9, ⟨Lc9, hQ9, l9, y9, z9⟩, st9⟩ := X0.virtualBack hx (y := own_m8) (z := own_m8) hown (mvT hZ (hw _ (own_w 57 rfl))) (mvT hZ (hw _ (own_w 58 rfl))) (notFace_of_selects (args := #[]) (mvT hZ (hw _ (own_w 60 rfl)))) (mvT hZ (hw _ (own_w 60 rfl))) (mvT hZ (hw _ (own_w 59 rfl))) (by decide) (backOf (W := 0) (rmisLat1 l Z a0 hw [] a1 wC h0 n0 Z0 O0 qC oK) hZ (hw _ (own_w 61 rfl)) (hw _ (own_w 4 rfl)) (by decide) (by decide)) qa9 qc9 (g := (mkF m 1 #[.val (.ref a1), .val (.int p2)] [(.ref a1)])) rfl (by rw [hml]; rfl) (Steps.refl _) (argsL := []) (rest := []) (lenOf pd_13 rfl) rfl (by show 2 * 0 + _ ≤ _; exact Nat.le_of_eq rfl) (hb hby d11_1) (fun _ _ => ⟨rfl, e0, (by decide : 0 + 0 ≤ _), (by decide : 0 + 0 ≤ _)⟩)
    dsimp only [Pt.U, Pt.locs, Pt.cells, Pt.slots] at X9 l9 y9 z9 st9 hQ9
    subst l9 y9 z9
    obtain ⟨rfl, Nq9, eq9⟩ := hQ9
    have N9 := Fr.app N0 Nq9
    have pre10 : own_Go p e below S0 (T9.setTop (mkF m 17 #[.val (.ref a1), .val (.int p2)] [(.ref a1)])) := by
      intro t kt
      refine pre8 t ?_
      refine st9.trans ?_
      show Steps p.tables e below (T9.setTop (mkF m 4 #[.val (.ref a1), .val (.int p2)] [(.int 0)])) _
      refine XS.ifYes X9.here hx rfl (pc0 := 4) (pc' := 16) rfl (hb hby d11_4) rfl ((if0 _ _).trans (teq (by decide : (0 : Int32) = (0 : Int32))).1) (by decide) (by decide) ?_
      refine XS.aloadN X9.here hx rfl (hb hby d11_16) rfl rfl ?_
      exact kt
    obtain ⟨T11, X11, e11, st11⟩ := getF X9 hx hZ hown (host := "") (Or.inl (hw _ (own_w 21 rfl))) Via.refl eq9 oV (g := (mkF m 17 #[.val (.ref a1), .val (.int p2)] [(.ref a1)])) rfl rfl (hb hby d11_17)
    have pre12 : own_Go p e below S0 (T11.setTop (mkF m 21 #[.val (.ref a1), .val (.int p2)] [(.int p2), (.ref vb)])) := by
      intro t kt
      refine pre10 t ?_
      refine st11 _ ?_
      refine XS.iloadN X11.here hx rfl (hb hby d11_20) rfl ?_
      exact kt
    obtain ⟨_, _, ⟨T13, L13, k13, n13⟩, -, X13, ⟨Lc13, hQ13, l13, y13, z13⟩, st13⟩ := Jvm.LawKit.callS X11 hx (y := own_m11) hown (mvT hZ (hw _ (own_w 96 rfl))) (mvT hZ (hw _ (own_w 97 rfl))) (mvT hZ (hw _ (own_w 40 rfl))) (mvT hZ (hw _ (own_w 98 rfl))) (by decide) (backOf (W := 0) (rmu16at l Z a0 hw [] vb p2 wF kb (own_len2 cs) (own_ub cs) (.int 0) (nar .byte ((cx >>> ((0 : Int32) &&& 31)).toInt8.toInt32)) (nar .byte ((cx >>> ((8 : Int32) &&& 31)).toInt8.toInt32)) (2 * p2.toNatClampNeg) (2 * p2.toNatClampNeg + 1) h0 n0 Z0 O0 qU qF oA (own_Jb hn h1 h2).1 (own_Jb hn h1 h2).2.1 (own_Jb hn h1 h2).2.2.2.2.1 (own_getU hn h1 h2 hc).1 (own_Jb hn h1 h2).2.2.1 (own_Jb hn h1 h2).2.2.2.1 (own_Jb hn h1 h2).2.2.2.2.2.1 (own_getU hn h1 h2 hc).2 h1 (own_Jb hn h1 h2).2.2.2.2.2.2) hZ (hw _ (own_w 98 rfl)) (hw _ (own_w 40 rfl)) (by decide) (by decide)) (g := (mkF m 21 #[.val (.ref a1), .val (.int p2)] [(.int p2), (.ref vb)])) rfl (by rw [hml]; rfl) (argsL := [(.ref vb), (.int p2)]) (rest := []) (lenOf pd_7 rfl) rfl (by show 2 * 0 + _ ≤ _; exact Nat.le_of_eq rfl) (hb hby d11_21) (fun _ _ => ⟨rfl, e11, (by decide : 0 + 0 ≤ _), (by decide : 0 + 0 ≤ _)⟩)
    dsimp only [Pt.U, Pt.locs, Pt.cells, Pt.slots] at X13 l13 y13 z13 st13 hQ13
    subst l13 y13 z13
    obtain ⟨rfl, Nq13, eq13⟩ := hQ13
    have N13 := Fr.app N9 Nq13
    have pre14 : own_Go p e below S0 (T13.setTop (mkF m 24 #[.val (.ref a1), .val (.int p2)] [(.int (own_gc (nar .byte ((cx >>> ((0 : Int32) &&& 31)).toInt8.toInt32)) (nar .byte ((cx >>> ((8 : Int32) &&& 31)).toInt8.toInt32))))])) := by
      intro t kt
      refine pre12 t ?_
      refine st13 _ ?_
      show Steps p.tables e below (T13.setTop (mkF m 24 #[.val (.ref a1), .val (.int p2)] [(.int (own_gc (nar .byte ((cx >>> ((0 : Int32) &&& 31)).toInt8.toInt32)) (nar .byte ((cx >>> ((8 : Int32) &&& 31)).toInt8.toInt32))))])) _
      exact kt
    have hl : 0 ≤ cx.toInt ∧ cx.toInt < 65536 := by rw [← hc]; exact own_ChrAt cs _ oL (own_ixn hn h1 h2)
    obtain ⟨fs, hr, hrun, hended, hW, hsame⟩ := X13.leave (v := some (.int (nar .char (own_gc (nar .byte ((cx >>> ((0 : Int32) &&& 31)).toInt8.toInt32)) (nar .byte ((cx >>> ((8 : Int32) &&& 31)).toInt8.toInt32)))))) (fun h => by rw [Bd.returns] at h; cases h)
    refine ⟨_, _, fin _ (pre14 _ ?_), hrun, hended, _, _, rfl, ?_, ⟨_, rfl⟩, hW, hsame.mono (by decide) (by decide)⟩
    · exact retN X13 hx (t := .char) Bd.returns (by simp) (hb hby d11_24) hr
    · show QcharAt Z a1 p2 wC wF vb kb cs cx h0 n0 _ T13.heap _
      rw [eq13]
      exact ⟨(by show some (Value.int (nar .char _)) = _; rw [own_utfget cx hl, own_narChar cx hl.1 (by omega)]), N13, rfl⟩

theorem ef_cmp5_2 (m : MethodId) (x0 : Addr) (x2 : Addr) : entryFrame m #[(.ref x0), (.int 0), (.ref x2), (.int 0), (.int 2)] 7 = mkF m 0 #[.val (.ref x0), .val (.int 0), .val (.ref x2), .val (.int 0), .val (.int 2), .unset, .unset] [] := by first | (simp [entryFrame, mkF, argsToLocals, Value.category]; done) | rfl
def Qcmp5_2 (Z : State) (a1 : Addr) (a2 : Addr) (kc : ClassId) (kb : ClassId) (c0 : Int32) (c1 : Int32) (h0 : Heap) (n0 : Nat) (v : Option Value) (h : Heap) (L : List Loc) : Prop := ∃ r : Int32, v = (some (.int r)) ∧ Fr n0 L ∧ Keep h0 h [a2] ∧ ((r = (2 : Int32) ∧ own_Lat [c0, c1] ∧ Arv Z h a2 kb .byte (2 : Int32) [(.int (nar .byte (c0.toInt8.toInt32))), (.int (nar .byte (c1.toInt8.toInt32)))] (.int 0)) ∨ (r = (0 : Int32) ∧ (255 : Int32) < c0) ∨ (r = (1 : Int32) ∧ (255 : Int32) < c1))
set_option maxRecDepth 65536 in
set_option maxHeartbeats 40000000 in
theorem rmcmp5_2 (l : Launch) (Z : State) (a0 : Array Value) (hw : ∀ d ∈ tables_1, d.before a0 Z = true) (ws : List Jvm.Cond) (a1 : Addr) (a2 : Addr) (kc : ClassId) (kb : ClassId) (c0 : Int32) (c1 : Int32) (h0 : Heap) (n0 : Nat) (Z0 : n0 ≤ h0.size) (VC : Arv Z h0 a1 kc .char (2 : Int32) [(.int c0), (.int c1)] (.int 0)) (g2 : n0 ≤ a2) (VB : Arv Z h0 a2 kb .byte (2 : Int32) [(.int 0), (.int 0)] (.int 0)) (n12 : a1 ≠ a2) :
    MetFree l own_m15 (head1 (Jvm.Cond.code own_m15 jdk_52_method_21_code 7 (some .int) :: ws) (own_r 0 0 0 0)) (fun a U => a = #[(.ref a1), (.int 0), (.ref a2), (.int 0), (.int 2)] ∧ Z.Warmed39 U.vm ∧ U.heap = h0) (fun _ _ _ _ _ => True) (fun _ U o U' => ∃ v L, o = .returned v ∧ Qcmp5_2 Z a1 a2 kc kb c0 c1 h0 n0 v U'.heap L ∧ FrameEnd U o U' L (own_r 0 0 0 0).cells (own_r 0 0 0 0).slots) := by
  refine MetFree.of_bodySF (plainFor_of_name pn_8) hisR ?_
  intro p e s m args below meth c s₁ Bd hml0 hP hK
  obtain ⟨rfl, hZ, hh⟩ := hP
  have hx := Bd.exec
  have hby := Bd.bytes
  have hml : c.maxLocals = 7 := hml0
  have hown0 := findClass_of_methodNamed Bd.named
  have hown : s.vm.findClass "java/lang/StringUTF16" = some m.cls := hown0
  have hnm := (name_of_methodNamed Bd.named Bd.method).1
  have X0 : Stand p l e (own_r 0 0 0 0) s m #[(.ref a1), (.int 0), (.ref a2), (.int 0), (.int 2)] below meth c s₁ [] 0 0 := Stand.of_body Bd
  have e0 : s₁.heap = h0 := by rw [← hh, Bd.state]; rfl
  have N0 := Fr.nil n0
  obtain ⟨S0, hS0⟩ : ∃ z, z = s₁.setTop (entryFrame m #[(.ref a1), (.int 0), (.ref a2), (.int 0), (.int 2)] 7) := ⟨_, rfl⟩
  have pre0 : own_Go p e below S0 (s₁.setTop (mkF m 0 #[.val (.ref a1), .val (.int 0), .val (.ref a2), .val (.int 0), .val (.int 2), .unset, .unset] [])) := fun t k => by rw [hS0]; exact castTop (ef_cmp5_2 m a1 a2) k
  have fin : ∀ t, Steps p.tables e below S0 t → Steps p.tables e below (s₁.setTop (entryFrame m #[(.ref a1), (.int 0), (.ref a2), (.int 0), (.int 2)] 7)) t := fun t k => by rw [hS0] at k; exact k
  have kc0 : Keep h0 h0 [a2] := Keep.refl _ _
  have pre1 : own_Go p e below S0 (s₁.setTop (mkF m 12 #[.val (.ref a1), .val (.int 0), .val (.ref a2), .val (.int 0), .val (.int 2), .val (.int 0), .unset] [(.int 0), (.ref a1)])) := by
    intro t kt
    refine pre0 t ?_
    refine XS.iconst X0.here hx rfl (hb hby d8_0) ?_
    refine XS.istore X0.here hx rfl (hb hby d8_1) rfl (l' := #[.val (.ref a1), .val (.int 0), .val (.ref a2), .val (.int 0), .val (.int 2), .val (.int 0), .unset]) rfl ?_
    refine XS.iload X0.here hx rfl (hb hby d8_3) rfl ?_
    refine XS.iload X0.here hx rfl (hb hby d8_5) rfl ?_
    refine XS.icmpNo X0.here hx rfl (hb hby d8_7) rfl (tlt (by decide : (0 : Int32) < (2 : Int32))).2.1 ?_
    refine XS.aloadN X0.here hx rfl (hb hby d8_10) rfl rfl ?_
    show Steps p.tables e below (s₁.setTop (mkF m 11 #[.val (.ref a1), .val (.int 0), .val (.ref a2), .val (.int 0), .val (.int 2), .val (.int 0), .unset] [(.ref a1)])) _
    refine XS.iloadN X0.here hx rfl (hb hby d8_11) rfl ?_
    exact kt
  obtain ⟨cl2, Ar2, -, Sz2, -, Hs2, -⟩ := id VC
  have hin2 : ¬ ((0 : Int32) < 0 ∨ cl2.slots.size ≤ ((0 : Int32)).toNatClampNeg) := inb_of Sz2 ⟨by decide, by decide⟩
  have pre4 : own_Go p e below S0 (s₁.setTop (mkF m 20 #[.val (.ref a1), .val (.int 0), .val (.ref a2), .val (.int 0), .val (.int 2), .val (.int 0), .val (.int c0)] [(.int 255), (.int c0)])) := by
    intro t kt
    refine pre1 t ?_
    refine X0.caload hx (j := (0 : Int32)) (v := (.int c0)) (by rw [e0]; exact Ar2.1) (State.isArrayOf_alike hZ.alike Ar2.2.1) Ar2.2.2 hin2 (Hs2.at hin2 rfl) (g := (mkF m 12 #[.val (.ref a1), .val (.int 0), .val (.ref a2), .val (.int 0), .val (.int 2), .val (.int 0), .unset] [(.int 0), (.ref a1)])) rfl rfl (hb hby d8_12) _ ?_
    refine XS.istore X0.here hx rfl (hb hby d8_13) rfl (l' := #[.val (.ref a1), .val (.int 0), .val (.ref a2), .val (.int 0), .val (.int 2), .val (.int 0), .val (.int c0)]) rfl ?_
    refine XS.iload X0.here hx rfl (hb hby d8_15) rfl ?_
    refine XS.sipush X0.here hx rfl (hb hby d8_17) ?_
    exact kt
  by_cases hc3 : (255 : Int32) < c0
  · have pre5 : own_Go p e below S0 (s₁.setTop (mkF m 25 #[.val (.ref a1), .val (.int 0), .val (.ref a2), .val (.int 0), .val (.int 2), .val (.int 0), .val (.int c0)] [(.int 0)])) := by
      intro t kt
      refine pre4 t ?_
      refine XS.icmpNo X0.here hx rfl (hb hby d8_20) rfl (tlt hc3).2.2.2 ?_
      refine XS.iload X0.here hx rfl (hb hby d8_23) rfl ?_
      exact kt
    obtain ⟨fs, hr, hrun, hended, hW, hsame⟩ := X0.leave (v := some (.int 0)) (fun h => by rw [Bd.returns] at h; cases h)
    refine ⟨_, _, fin _ (pre5 _ ?_), hrun, hended, _, _, rfl, ?_, ⟨_, rfl⟩, hW, hsame.mono (by decide) (by decide)⟩
    · exact retI X0 hx Bd.returns (hb hby d8_25) hr
    · show Qcmp5_2 Z a1 a2 kc kb c0 c1 h0 n0 _ s₁.heap _
      rw [e0]
      exact ⟨(0 : Int32), rfl, N0, kc0, (Or.inr (Or.inl ⟨rfl, hc3⟩))⟩
  · have pre6 : own_Go p e below S0 (s₁.setTop (mkF m 31 #[.val (.ref a1), .val (.int 0), .val (.ref a2), .val (.int 0), .val (.int 2), .val (.int 0), .val (.int c0)] [(.int (c0.toInt8.toInt32)), (.int 0), (.ref a2)])) := by
      intro t kt
      refine pre4 t ?_
      refine XS.icmpYes X0.here hx rfl (pc0 := 20) (pc' := 26) rfl (hb hby d8_20) rfl (flt hc3).2.2.2 (by decide) (by decide) ?_
      refine XS.aloadN X0.here hx rfl (hb hby d8_26) rfl rfl ?_
      refine XS.iloadN X0.here hx rfl (hb hby d8_27) rfl ?_
      refine XS.iload X0.here hx rfl (hb hby d8_28) rfl ?_
      refine XS.i2b X0.here hx rfl (hb hby d8_30) rfl ?_
      exact kt
    obtain ⟨cl7, Ar7, q7, Sz7, Ng7, Hs7, Gt7⟩ := id VB
    have hin7 : ¬ ((0 : Int32) < 0 ∨ cl7.slots.size ≤ ((0 : Int32)).toNatClampNeg) := inb_of Sz7 ⟨by decide, by decide⟩
    obtain ⟨T7, h7, X7, e7, W7, st7⟩ := stB X0 hx hZ e0 Ar7 (j := (0 : Int32)) hin7 (g := (mkF m 31 #[.val (.ref a1), .val (.int 0), .val (.ref a2), .val (.int 0), .val (.int 2), .val (.int 0), .val (.int c0)] [(.int (c0.toInt8.toInt32)), (.int 0), (.ref a2)])) rfl rfl (hb hby d8_31)
    have N7 := Fr.snoc X7 N0 g2
    have zs8 : n0 ≤ h7.size := Nat.le_trans Z0 (Keep.of_wr W7).1
    have kc9 : Keep h0 h7 [a2] := kc0.wr W7 (Or.inl (List.mem_of_getElem? (i := 0) rfl))
    have V7 : Arv Z h7 a2 kb .byte (2 : Int32) [(.int (nar .byte (c0.toInt8.toInt32))), (.int 0)] (.int 0) := Arv.set Ar7 q7 Sz7 Ng7 Hs7 Gt7 (fits_nar_byte _) W7 0 rfl (Nat.le_of_ble_eq_true rfl)
    have pre10 : own_Go p e below S0 (T7.setTop (mkF m 12 #[.val (.ref a1), .val (.int 1), .val (.ref a2), .val (.int 1), .val (.int 2), .val (.int 1), .val (.int c0)] [(.int 1), (.ref a1)])) := by
      intro t kt
      refine pre6 t ?_
      refine st7 _ ?_
      refine XS.iinc X7.here hx rfl (hb hby d8_32) rfl (l' := #[.val (.ref a1), .val (.int 1), .val (.ref a2), .val (.int 0), .val (.int 2), .val (.int 0), .val (.int c0)]) rfl ?_
      refine XS.iinc X7.here hx rfl (hb hby d8_35) rfl (l' := #[.val (.ref a1), .val (.int 1), .val (.ref a2), .val (.int 1), .val (.int 2), .val (.int 0), .val (.int c0)]) rfl ?_
      refine XS.iinc X7.here hx rfl (hb hby d8_38) rfl (l' := #[.val (.ref a1), .val (.int 1), .val (.ref a2), .val (.int 1), .val (.int 2), .val (.int 1), .val (.int c0)]) rfl ?_
      refine XS.goto X7.here hx rfl (pc0 := 41) (pc' := 3) rfl (hb hby d8_41) (by decide) (by decide) ?_
      refine XS.iload X7.here hx rfl (hb hby d8_3) rfl ?_
      show Steps p.tables e below (T7.setTop (mkF m 5 #[.val (.ref a1), .val (.int 1), .val (.ref a2), .val (.int 1), .val (.int 2), .val (.int 1), .val (.int c0)] [(.int 1)])) _
      refine XS.iload X7.here hx rfl (hb hby d8_5) rfl ?_
      refine XS.icmpNo X7.here hx rfl (hb hby d8_7) rfl (tlt (by decide : (1 : Int32) < (2 : Int32))).2.1 ?_
      refine XS.aloadN X7.here hx rfl (hb hby d8_10) rfl rfl ?_
      refine XS.iloadN X7.here hx rfl (hb hby d8_11) rfl ?_
      exact kt
    have f11 : Arv Z h7 a1 kc .char (2 : Int32) [(.int c0), (.int c1)] (.int 0) := (VC.other W7 n12)
    obtain ⟨cl12, Ar12, -, Sz12, -, Hs12, -⟩ := id f11
    have hin12 : ¬ ((1 : Int32) < 0 ∨ cl12.slots.size ≤ ((1 : Int32)).toNatClampNeg) := inb_of Sz12 ⟨by decide, by decide⟩
    have pre14 : own_Go p e below S0 (T7.setTop (mkF m 20 #[.val (.ref a1), .val (.int 1), .val (.ref a2), .val (.int 1), .val (.int 2), .val (.int 1), .val (.int c1)] [(.int 255), (.int c1)])) := by
      intro t kt
      refine pre10 t ?_
      refine X7.caload hx (j := (1 : Int32)) (v := (.int c1)) (by rw [e7]; exact Ar12.1) (State.isArrayOf_alike hZ.alike Ar12.2.1) Ar12.2.2 hin12 (Hs12.at hin12 rfl) (g := (mkF m 12 #[.val (.ref a1), .val (.int 1), .val (.ref a2), .val (.int 1), .val (.int 2), .val (.int 1), .val (.int c0)] [(.int 1), (.ref a1)])) rfl rfl (hb hby d8_12) _ ?_
      refine XS.istore X7.here hx rfl (hb hby d8_13) rfl (l' := #[.val (.ref a1), .val (.int 1), .val (.ref a2), .val (.int 1), .val (.int 2), .val (.int 1), .val (.int c1)]) rfl ?_
      refine XS.iload X7.here hx rfl (hb hby d8_15) rfl ?_
      refine XS.sipush X7.here hx rfl (hb hby d8_17) ?_
      exact kt
    by_cases hc13 : (255 : Int32) < c1
    · have pre15 : own_Go p e below S0 (T7.setTop (mkF m 25 #[.val (.ref a1), .val (.int 1), .val (.ref a2), .val (.int 1), .val (.int 2), .val (.int 1), .val (.int c1)] [(.int 1)])) := by
        intro t kt
        refine pre14 t ?_
        refine XS.icmpNo X7.here hx rfl (hb hby d8_20) rfl (tlt hc13).2.2.2 ?_
        refine XS.iload X7.here hx rfl (hb hby d8_23) rfl ?_
        exact kt
      obtain ⟨fs, hr, hrun, hended, hW, hsame⟩ := X7.leave (v := some (.int 1)) (fun h => by rw [Bd.returns] at h; cases h)
      refine ⟨_, _, fin _ (pre15 _ ?_), hrun, hended, _, _, rfl, ?_, ⟨_, rfl⟩, hW, hsame.mono (by decide) (by decide)⟩
      · exact retI X7 hx Bd.returns (hb hby d8_25) hr
      · show Qcmp5_2 Z a1 a2 kc kb c0 c1 h0 n0 _ T7.heap _
        rw [e7]
        exact ⟨(1 : Int32), rfl, N7, kc9, (Or.inr (Or.inr (⟨rfl, hc13⟩)))⟩
    · have pre16 : own_Go p e below S0 (T7.setTop (mkF m 31 #[.val (.ref a1), .val (.int 1), .val (.ref a2), .val (.int 1), .val (.int 2), .val (.int 1), .val (.int c1)] [(.int (c1.toInt8.toInt32)), (.int 1), (.ref a2)])) := by
        intro t kt
        refine pre14 t ?_
        refine XS.icmpYes X7.here hx rfl (pc0 := 20) (pc' := 26) rfl (hb hby d8_20) rfl (flt hc13).2.2.2 (by decide) (by decide) ?_
        refine XS.aloadN X7.here hx rfl (hb hby d8_26) rfl rfl ?_
        refine XS.iloadN X7.here hx rfl (hb hby d8_27) rfl ?_
        refine XS.iload X7.here hx rfl (hb hby d8_28) rfl ?_
        refine XS.i2b X7.here hx rfl (hb hby d8_30) rfl ?_
        exact kt
      obtain ⟨cl17, Ar17, q17, Sz17, Ng17, Hs17, Gt17⟩ := id V7
      have hin17 : ¬ ((1 : Int32) < 0 ∨ cl17.slots.size ≤ ((1 : Int32)).toNatClampNeg) := inb_of Sz17 ⟨by decide, by decide⟩
      obtain ⟨T17, h17, X17, e17, W17, st17⟩ := stB X7 hx hZ e7 Ar17 (j := (1 : Int32)) hin17 (g := (mkF m 31 #[.val (.ref a1), .val (.int 1), .val (.ref a2), .val (.int 1), .val (.int 2), .val (.int 1), .val (.int c1)] [(.int (c1.toInt8.toInt32)), (.int 1), (.ref a2)])) rfl rfl (hb hby d8_31)
      have N17 := Fr.snoc X17 N7 g2
      have zs18 : n0 ≤ h17.size := Nat.le_trans zs8 (Keep.of_wr W17).1
      have kc19 : Keep h0 h17 [a2] := kc9.wr W17 (Or.inl (List.mem_of_getElem? (i := 0) rfl))
      have V17 : Arv Z h17 a2 kb .byte (2 : Int32) [(.int (nar .byte (c0.toInt8.toInt32))), (.int (nar .byte (c1.toInt8.toInt32)))] (.int 0) := Arv.set Ar17 q17 Sz17 Ng17 Hs17 Gt17 (fits_nar_byte _) W17 1 rfl (Nat.le_of_ble_eq_true rfl)
      have pre20 : own_Go p e below S0 (T17.setTop (mkF m 46 #[.val (.ref a1), .val (.int 2), .val (.ref a2), .val (.int 2), .val (.int 2), .val (.int 2), .val (.int c1)] [(.int 2)])) := by
        intro t kt
        refine pre16 t ?_
        refine st17 _ ?_
        refine XS.iinc X17.here hx rfl (hb hby d8_32) rfl (l' := #[.val (.ref a1), .val (.int 2), .val (.ref a2), .val (.int 1), .val (.int 2), .val (.int 1), .val (.int c1)]) rfl ?_
        refine XS.iinc X17.here hx rfl (hb hby d8_35) rfl (l' := #[.val (.ref a1), .val (.int 2), .val (.ref a2), .val (.int 2), .val (.int 2), .val (.int 1), .val (.int c1)]) rfl ?_
        refine XS.iinc X17.here hx rfl (hb hby d8_38) rfl (l' := #[.val (.ref a1), .val (.int 2), .val (.ref a2), .val (.int 2), .val (.int 2), .val (.int 2), .val (.int c1)]) rfl ?_
        refine XS.goto X17.here hx rfl (pc0 := 41) (pc' := 3) rfl (hb hby d8_41) (by decide) (by decide) ?_
        refine XS.iload X17.here hx rfl (hb hby d8_3) rfl ?_
        show Steps p.tables e below (T17.setTop (mkF m 5 #[.val (.ref a1), .val (.int 2), .val (.ref a2), .val (.int 2), .val (.int 2), .val (.int 2), .val (.int c1)] [(.int 2)])) _
        refine XS.iload X17.here hx rfl (hb hby d8_5) rfl ?_
        refine XS.icmpYes X17.here hx rfl (pc0 := 7) (pc' := 44) rfl (hb hby d8_7) rfl (flt (by decide : ¬ ((2 : Int32) < (2 : Int32)))).2.1 (by decide) (by decide) ?_
        refine XS.iload X17.here hx rfl (hb hby d8_44) rfl ?_
        exact kt
      obtain ⟨fs, hr, hrun, hended, hW, hsame⟩ := X17.leave (v := some (.int 2)) (fun h => by rw [Bd.returns] at h; cases h)
      refine ⟨_, _, fin _ (pre20 _ ?_), hrun, hended, _, _, rfl, ?_, ⟨_, rfl⟩, hW, hsame.mono (by decide) (by decide)⟩
      · exact retI X17 hx Bd.returns (hb hby d8_46) hr
      · show Qcmp5_2 Z a1 a2 kc kb c0 c1 h0 n0 _ T17.heap _
        rw [e17]
        exact ⟨(2 : Int32), rfl, N17, kc19, (Or.inl ⟨rfl, ⟨⟨(own_fitAt VC 0 (by decide) rfl).1, own_ltOf hc3⟩, ⟨⟨(own_fitAt VC 1 (by decide) rfl).1, own_ltOf hc13⟩, trivial⟩⟩, V17⟩)⟩

theorem ef_nfor_2 (m : MethodId)  : entryFrame m #[(.int 2)] 1 = mkF m 0 #[.val (.int 2)] [] := by first | (simp [entryFrame, mkF, argsToLocals, Value.category]; done) | rfl
def Qnfor_2 (Z : State)  (h0 : Heap) (n0 : Nat) (v : Option Value) (h : Heap) (L : List Loc) : Prop := ∃ b : Addr, ∃ kb : ClassId, v = (some (.ref b)) ∧ Fr n0 L ∧ Keep h0 h [] ∧ h0.size ≤ b ∧ Arv Z h b kb .byte (4 : Int32) [(.int 0), (.int 0), (.int 0), (.int 0)] (.int 0)
set_option maxRecDepth 65536 in
set_option maxHeartbeats 40000000 in
theorem rmnfor_2 (l : Launch) (Z : State) (a0 : Array Value) (hw : ∀ d ∈ tables_1, d.before a0 Z = true) (ws : List Jvm.Cond)  (h0 : Heap) (n0 : Nat) (Z0 : n0 ≤ h0.size) :
    MetFree l own_m18 (head1 (Jvm.Cond.code own_m18 jdk_52_method_2_code 1 (some (.array .byte)) :: ws) (own_r 1 1 4 12)) (fun a U => a = #[(.int 2)] ∧ Z.Warmed39 U.vm ∧ U.heap = h0) (fun _ _ _ _ _ => True) (fun _ U o U' => ∃ v L, o = .returned v ∧ Qnfor_2 Z  h0 n0 v U'.heap L ∧ FrameEnd U o U' L (own_r 1 1 4 12).cells (own_r 1 1 4 12).slots) := by
  refine MetFree.of_bodySF (plainFor_of_name pn_18) hisR ?_
  intro p e s m args below meth c s₁ Bd hml0 hP hK
  obtain ⟨rfl, hZ, hh⟩ := hP
  have hx := Bd.exec
  have hby := Bd.bytes
  have hml : c.maxLocals = 1 := hml0
  have hown0 := findClass_of_methodNamed Bd.named
  have hown : s.vm.findClass "java/lang/StringUTF16" = some m.cls := hown0
  have hnm := (name_of_methodNamed Bd.named Bd.method).1
  have X0 : Stand p l e (own_r 1 1 4 12) s m #[(.int 2)] below meth c s₁ [] 0 0 := Stand.of_body Bd
  have e0 : s₁.heap = h0 := by rw [← hh, Bd.state]; rfl
  have N0 := Fr.nil n0
  obtain ⟨S0, hS0⟩ : ∃ z, z = s₁.setTop (entryFrame m #[(.int 2)] 1) := ⟨_, rfl⟩
  have pre0 : own_Go p e below S0 (s₁.setTop (mkF m 0 #[.val (.int 2)] [])) := fun t k => by rw [hS0]; exact castTop (ef_nfor_2 m ) k
  have fin : ∀ t, Steps p.tables e below S0 t → Steps p.tables e below (s₁.setTop (entryFrame m #[(.int 2)] 1)) t := fun t k => by rw [hS0] at k; exact k
  have kc0 : Keep h0 h0 [] := Keep.refl _ _
  have pre1 : own_Go p e below S0 (s₁.setTop (mkF m 1 #[.val (.int 2)] [(.int 2)])) := by
    intro t kt
    refine pre0 t ?_
    refine XS.iloadN X0.here hx rfl (hb hby d18_0) rfl ?_
    exact kt
  obtain ⟨_, _, ⟨T2, L2, k2, n2⟩, -, X2, ⟨Lc2, hQ2, l2, y2, z2⟩, st2⟩ := Jvm.LawKit.callS X0 hx (y := own_m19) hown (mvT hZ (hw _ (own_w 83 rfl))) (mvT hZ (hw _ (own_w 84 rfl))) (mvT hZ (hw _ (own_w 40 rfl))) (mvT hZ (hw _ (own_w 85 rfl))) (by decide) (backOf (W := 0) (rmnlen l Z a0 hw [] (2 : Int32) h0 n0 Z0 (by decide) (by decide)) hZ (hw _ (own_w 85 rfl)) (hw _ (own_w 40 rfl)) (by decide) (by decide)) (g := (mkF m 1 #[.val (.int 2)] [(.int 2)])) rfl (by rw [hml]; rfl) (argsL := [(.int 2)]) (rest := []) (lenOf pd_2 rfl) rfl (by show 2 * 0 + _ ≤ _; exact Nat.le_of_eq rfl) (hb hby d18_1) (fun _ _ => ⟨rfl, e0, (by decide : 0 + 0 ≤ _), (by decide : 0 + 0 ≤ _)⟩)
  dsimp only [Pt.U, Pt.locs, Pt.cells, Pt.slots] at X2 l2 y2 z2 st2 hQ2
  subst l2 y2 z2
  obtain ⟨rfl, Nq2, eq2⟩ := hQ2
  have N2 := Fr.app N0 Nq2
  have pre3 : own_Go p e below S0 (T2.setTop (mkF m 4 #[.val (.int 2)] [(.int (own_nbl (2 : Int32)))])) := by
    intro t kt
    refine pre1 t ?_
    refine st2 _ ?_
    show Steps p.tables e below (T2.setTop (mkF m 4 #[.val (.int 2)] [(.int (own_nbl (2 : Int32)))])) _
    exact kt
  have pre4 : own_Go p e below S0 (T2.setTop (mkF m 4 #[.val (.int 2)] [(.int 4)])) := by
    intro t kt
    refine pre3 t ?_
    rw [(by decide : (own_nbl (2 : Int32)) = (4 : Int32))]
    exact kt
  obtain ⟨T5, h5, k5, X5, e5, E5, A5, st5⟩ := newP X2 hx hZ (hw _ (own_w 16 rfl)) eq2 (g := (mkF m 4 #[.val (.int 2)] [(.int 4)])) rfl (hb hby d18_4) rfl (by decide) (cap := 4) (by decide) (by decide) (by decide) (by decide)
  obtain ⟨b5, g5⟩ : ∃ z, z = h0.size := ⟨_, rfl⟩
  rw [← g5] at A5 st5
  have ge6 : n0 ≤ b5 := Nat.le_trans Z0 (Nat.le_of_eq g5.symm)
  have sz7 : h0.size ≤ b5 := Nat.le_trans kc0.1 (Nat.le_of_eq g5.symm)
  have zs8 : n0 ≤ h5.size := Nat.le_trans Z0 E5.1
  have kc9 : Keep h0 h5 [] := kc0.ext E5
  have V5 : Arv Z h5 b5 k5 .byte (4 : Int32) [(.int 0), (.int 0), (.int 0), (.int 0)] (.int 0) := (Arv.new A5 (by decide)).pad (pad_rep [] (.int 0) 4)
  have pre10 : own_Go p e below S0 (T5.setTop (mkF m 6 #[.val (.int 2)] [(.ref b5)])) := by
    intro t kt
    refine pre4 t ?_
    refine st5 _ ?_
    exact kt
  obtain ⟨fs, hr, hrun, hended, hW, hsame⟩ := X5.leave (v := some (.ref b5)) (fun h => by rw [Bd.returns] at h; cases h)
  refine ⟨_, _, fin _ (pre10 _ ?_), hrun, hended, _, _, rfl, ?_, ⟨_, rfl⟩, hW, hsame.mono (by decide) (by decide)⟩
  · jvm_step X5.here [X5.here.top, hx, (hb hby d18_6), X5.method', Bd.returns, Value.isRef, FieldType.isReference]
    first | (intro acts; rw [hr _ acts rfl rfl rfl]) | rw [hr _ _ rfl rfl rfl]
    exact Steps.refl _
  · show Qnfor_2 Z  h0 n0 _ T5.heap _
    rw [e5]
    exact ⟨b5, k5, rfl, N2, kc9, sz7, V5⟩

theorem ef_putc_0_4 (m : MethodId) (x0 : Addr) (x2 : Int32) : entryFrame m #[(.ref x0), (.int 0), (.int x2)] 3 = mkF m 0 #[.val (.ref x0), .val (.int 0), .val (.int x2)] [] := by first | (simp [entryFrame, mkF, argsToLocals, Value.category]; done) | rfl
def Qputc_0_4 (Z : State) (a1 : Addr) (p3 : Int32) (k1 : ClassId) (u0 : Value) (u1 : Value) (u2 : Value) (u3 : Value) (h0 : Heap) (n0 : Nat) (v : Option Value) (h : Heap) (L : List Loc) : Prop := v = none ∧ Fr n0 L ∧ Keep h0 h [a1] ∧ Arv Z h a1 k1 .byte (4 : Int32) [(.int (nar .byte ((p3 >>> ((0 : Int32) &&& 31)).toInt8.toInt32))), (.int (nar .byte ((p3 >>> ((8 : Int32) &&& 31)).toInt8.toInt32))), u2, u3] (.int 0)
set_option maxRecDepth 65536 in
set_option maxHeartbeats 40000000 in
theorem rmputc_0_4 (l : Launch) (Z : State) (a0 : Array Value) (hw : ∀ d ∈ tables_1, d.before a0 Z = true) (ws : List Jvm.Cond) (a1 : Addr) (p3 : Int32) (k1 : ClassId) (u0 : Value) (u1 : Value) (u2 : Value) (u3 : Value) (h0 : Heap) (n0 : Nat) (Z0 : n0 ≤ h0.size) (O0 : Old Z n0 h0) (qU : (own_SU Z)) (g1 : n0 ≤ a1) (V1 : Arv Z h0 a1 k1 .byte (4 : Int32) [u0, u1, u2, u3] (.int 0)) :
    MetFree l own_m20 (head1 (Jvm.Cond.code own_m20 jdk_52_method_4_code 3 none :: ws) (own_r 0 0 0 0)) (fun a U => a = #[(.ref a1), (.int 0), (.int p3)] ∧ Z.Warmed39 U.vm ∧ U.heap = h0) (fun _ _ _ _ _ => True) (fun _ U o U' => ∃ v L, o = .returned v ∧ Qputc_0_4 Z a1 p3 k1 u0 u1 u2 u3 h0 n0 v U'.heap L ∧ FrameEnd U o U' L (own_r 0 0 0 0).cells (own_r 0 0 0 0).slots) := by
  refine MetFree.of_bodySF (plainFor_of_name pn_20) hisR ?_
  intro p e s m args below meth c s₁ Bd hml0 hP hK
  obtain ⟨rfl, hZ, hh⟩ := hP
  have hx := Bd.exec
  have hby := Bd.bytes
  have hml : c.maxLocals = 3 := hml0
  have hown0 := findClass_of_methodNamed Bd.named
  have hown : s.vm.findClass "java/lang/StringUTF16" = some m.cls := hown0
  have hnm := (name_of_methodNamed Bd.named Bd.method).1
  have X0 : Stand p l e (own_r 0 0 0 0) s m #[(.ref a1), (.int 0), (.int p3)] below meth c s₁ [] 0 0 := Stand.of_body Bd
  have e0 : s₁.heap = h0 := by rw [← hh, Bd.state]; rfl
  have N0 := Fr.nil n0
  obtain ⟨S0, hS0⟩ : ∃ z, z = s₁.setTop (entryFrame m #[(.ref a1), (.int 0), (.int p3)] 3) := ⟨_, rfl⟩
  have pre0 : own_Go p e below S0 (s₁.setTop (mkF m 0 #[.val (.ref a1), .val (.int 0), .val (.int p3)] [])) := fun t k => by rw [hS0]; exact castTop (ef_putc_0_4 m a1 p3) k
  have fin : ∀ t, Steps p.tables e below S0 t → Steps p.tables e below (s₁.setTop (entryFrame m #[(.ref a1), (.int 0), (.int p3)] 3)) t := fun t k => by rw [hS0] at k; exact k
  have kc0 : Keep h0 h0 [a1] := Keep.refl _ _
  obtain ⟨T1, X1, e1, st1⟩ := getS2 X0 hx hZ hown (host := "") (Or.inl (hw _ (own_w 90 rfl))) Via.refl e0 (qU.1.ext O0.2) (g := (mkF m 0 #[.val (.ref a1), .val (.int 0), .val (.int p3)] [])) rfl (hb hby d20_0)
  have pre2 : own_Go p e below S0 (T1.setTop (mkF m 38 #[.val (.ref a1), .val (.int 1), .val (.int p3)] [(.int p3), (.int 0), (.ref a1)])) := by
    intro t kt
    refine pre0 t ?_
    refine st1 _ ?_
    refine XS.ifYes X1.here hx rfl (pc0 := 3) (pc' := 28) rfl (hb hby d20_3) rfl ((if0 _ _).trans (feq (by decide : ¬ ((1 : Int32) = (0 : Int32)))).2) (by decide) (by decide) ?_
    refine XS.iloadN X1.here hx rfl (hb hby d20_28) rfl ?_
    refine XS.iconst X1.here hx rfl (hb hby d20_29) ?_
    refine XS.ishl X1.here hx rfl (hb hby d20_30) rfl ?_
    refine XS.istoreN X1.here hx rfl (hb hby d20_31) rfl (l' := #[.val (.ref a1), .val (.int 0), .val (.int p3)]) rfl ?_
    show Steps p.tables e below (T1.setTop (mkF m 32 #[.val (.ref a1), .val (.int 0), .val (.int p3)] [])) _
    refine XS.aloadN X1.here hx rfl (hb hby d20_32) rfl rfl ?_
    refine XS.iloadN X1.here hx rfl (hb hby d20_33) rfl ?_
    refine XS.iinc X1.here hx rfl (hb hby d20_34) rfl (l' := #[.val (.ref a1), .val (.int 1), .val (.int p3)]) rfl ?_
    refine XS.iloadN X1.here hx rfl (hb hby d20_37) rfl ?_
    exact kt
  obtain ⟨T3, X3, e3, st3⟩ := getS2 X1 hx hZ hown (host := "") (Or.inl (hw _ (own_w 91 rfl))) Via.refl e1 (qU.2.1.ext O0.2) (g := (mkF m 38 #[.val (.ref a1), .val (.int 1), .val (.int p3)] [(.int p3), (.int 0), (.ref a1)])) rfl (hb hby d20_38)
  have pre4 : own_Go p e below S0 (T3.setTop (mkF m 43 #[.val (.ref a1), .val (.int 1), .val (.int p3)] [(.int ((p3 >>> ((0 : Int32) &&& 31)).toInt8.toInt32)), (.int 0), (.ref a1)])) := by
    intro t kt
    refine pre2 t ?_
    refine st3 _ ?_
    refine XS.ishr X3.here hx rfl (hb hby d20_41) rfl ?_
    refine XS.i2b X3.here hx rfl (hb hby d20_42) rfl ?_
    exact kt
  obtain ⟨cl5, Ar5, q5, Sz5, Ng5, Hs5, Gt5⟩ := id V1
  have hin5 : ¬ ((0 : Int32) < 0 ∨ cl5.slots.size ≤ ((0 : Int32)).toNatClampNeg) := inb_of Sz5 ⟨by decide, by decide⟩
  obtain ⟨T5, h5, X5, e5, W5, st5⟩ := stB X3 hx hZ e3 Ar5 (j := (0 : Int32)) hin5 (g := (mkF m 43 #[.val (.ref a1), .val (.int 1), .val (.int p3)] [(.int ((p3 >>> ((0 : Int32) &&& 31)).toInt8.toInt32)), (.int 0), (.ref a1)])) rfl rfl (hb hby d20_43)
  have N5 := Fr.snoc X5 N0 g1
  have zs6 : n0 ≤ h5.size := Nat.le_trans Z0 (Keep.of_wr W5).1
  have kc7 : Keep h0 h5 [a1] := kc0.wr W5 (Or.inl (List.mem_of_getElem? (i := 0) rfl))
  have V5 : Arv Z h5 a1 k1 .byte (4 : Int32) [(.int (nar .byte ((p3 >>> ((0 : Int32) &&& 31)).toInt8.toInt32))), u1, u2, u3] (.int 0) := Arv.set Ar5 q5 Sz5 Ng5 Hs5 Gt5 (fits_nar_byte _) W5 0 rfl (Nat.le_of_ble_eq_true rfl)
  have pre8 : own_Go p e below S0 (T5.setTop (mkF m 47 #[.val (.ref a1), .val (.int 1), .val (.int p3)] [(.int p3), (.int 1), (.ref a1)])) := by
    intro t kt
    refine pre4 t ?_
    refine st5 _ ?_
    refine XS.aloadN X5.here hx rfl (hb hby d20_44) rfl rfl ?_
    refine XS.iloadN X5.here hx rfl (hb hby d20_45) rfl ?_
    refine XS.iloadN X5.here hx rfl (hb hby d20_46) rfl ?_
    exact kt
  have f9 : Old Z n0 h5 := (O0.wr W5 g1)
  obtain ⟨T10, X10, e10, st10⟩ := getS2 X5 hx hZ hown (host := "") (Or.inl (hw _ (own_w 92 rfl))) Via.refl e5 (qU.2.2.ext f9.2) (g := (mkF m 47 #[.val (.ref a1), .val (.int 1), .val (.int p3)] [(.int p3), (.int 1), (.ref a1)])) rfl (hb hby d20_47)
  have pre11 : own_Go p e below S0 (T10.setTop (mkF m 52 #[.val (.ref a1), .val (.int 1), .val (.int p3)] [(.int ((p3 >>> ((8 : Int32) &&& 31)).toInt8.toInt32)), (.int 1), (.ref a1)])) := by
    intro t kt
    refine pre8 t ?_
    refine st10 _ ?_
    refine XS.ishr X10.here hx rfl (hb hby d20_50) rfl ?_
    refine XS.i2b X10.here hx rfl (hb hby d20_51) rfl ?_
    exact kt
  obtain ⟨cl12, Ar12, q12, Sz12, Ng12, Hs12, Gt12⟩ := id V5
  have hin12 : ¬ ((1 : Int32) < 0 ∨ cl12.slots.size ≤ ((1 : Int32)).toNatClampNeg) := inb_of Sz12 ⟨by decide, by decide⟩
  obtain ⟨T12, h12, X12, e12, W12, st12⟩ := stB X10 hx hZ e10 Ar12 (j := (1 : Int32)) hin12 (g := (mkF m 52 #[.val (.ref a1), .val (.int 1), .val (.int p3)] [(.int ((p3 >>> ((8 : Int32) &&& 31)).toInt8.toInt32)), (.int 1), (.ref a1)])) rfl rfl (hb hby d20_52)
  have N12 := Fr.snoc X12 N5 g1
  have zs13 : n0 ≤ h12.size := Nat.le_trans zs6 (Keep.of_wr W12).1
  have kc14 : Keep h0 h12 [a1] := kc7.wr W12 (Or.inl (List.mem_of_getElem? (i := 0) rfl))
  have V12 : Arv Z h12 a1 k1 .byte (4 : Int32) [(.int (nar .byte ((p3 >>> ((0 : Int32) &&& 31)).toInt8.toInt32))), (.int (nar .byte ((p3 >>> ((8 : Int32) &&& 31)).toInt8.toInt32))), u2, u3] (.int 0) := Arv.set Ar12 q12 Sz12 Ng12 Hs12 Gt12 (fits_nar_byte _) W12 1 rfl (Nat.le_of_ble_eq_true rfl)
  have pre15 : own_Go p e below S0 (T12.setTop (mkF m 53 #[.val (.ref a1), .val (.int 1), .val (.int p3)] [])) := by
    intro t kt
    refine pre11 t ?_
    refine st12 _ ?_
    exact kt
  obtain ⟨fs, hr, hrun, hended, hW, hsame⟩ := X12.leave (v := none) (fun _ => rfl)
  refine ⟨_, _, fin _ (pre15 _ ?_), hrun, hended, _, _, rfl, ?_, ⟨_, rfl⟩, hW, hsame.mono (by decide) (by decide)⟩
  · exact X12.returnOut hx Bd.returns (hb hby d20_53) hr
  · show Qputc_0_4 Z a1 p3 k1 u0 u1 u2 u3 h0 n0 _ T12.heap _
    rw [e12]
    exact ⟨rfl, N12, kc14, V12⟩

theorem ef_putc_1_4 (m : MethodId) (x0 : Addr) (x2 : Int32) : entryFrame m #[(.ref x0), (.int 1), (.int x2)] 3 = mkF m 0 #[.val (.ref x0), .val (.int 1), .val (.int x2)] [] := by first | (simp [entryFrame, mkF, argsToLocals, Value.category]; done) | rfl
def Qputc_1_4 (Z : State) (a1 : Addr) (p3 : Int32) (k1 : ClassId) (u0 : Value) (u1 : Value) (u2 : Value) (u3 : Value) (h0 : Heap) (n0 : Nat) (v : Option Value) (h : Heap) (L : List Loc) : Prop := v = none ∧ Fr n0 L ∧ Keep h0 h [a1] ∧ Arv Z h a1 k1 .byte (4 : Int32) [u0, u1, (.int (nar .byte ((p3 >>> ((0 : Int32) &&& 31)).toInt8.toInt32))), (.int (nar .byte ((p3 >>> ((8 : Int32) &&& 31)).toInt8.toInt32)))] (.int 0)
set_option maxRecDepth 65536 in
set_option maxHeartbeats 40000000 in
theorem rmputc_1_4 (l : Launch) (Z : State) (a0 : Array Value) (hw : ∀ d ∈ tables_1, d.before a0 Z = true) (ws : List Jvm.Cond) (a1 : Addr) (p3 : Int32) (k1 : ClassId) (u0 : Value) (u1 : Value) (u2 : Value) (u3 : Value) (h0 : Heap) (n0 : Nat) (Z0 : n0 ≤ h0.size) (O0 : Old Z n0 h0) (qU : (own_SU Z)) (g1 : n0 ≤ a1) (V1 : Arv Z h0 a1 k1 .byte (4 : Int32) [u0, u1, u2, u3] (.int 0)) :
    MetFree l own_m20 (head1 (Jvm.Cond.code own_m20 jdk_52_method_4_code 3 none :: ws) (own_r 0 0 0 0)) (fun a U => a = #[(.ref a1), (.int 1), (.int p3)] ∧ Z.Warmed39 U.vm ∧ U.heap = h0) (fun _ _ _ _ _ => True) (fun _ U o U' => ∃ v L, o = .returned v ∧ Qputc_1_4 Z a1 p3 k1 u0 u1 u2 u3 h0 n0 v U'.heap L ∧ FrameEnd U o U' L (own_r 0 0 0 0).cells (own_r 0 0 0 0).slots) := by
  refine MetFree.of_bodySF (plainFor_of_name pn_20) hisR ?_
  intro p e s m args below meth c s₁ Bd hml0 hP hK
  obtain ⟨rfl, hZ, hh⟩ := hP
  have hx := Bd.exec
  have hby := Bd.bytes
  have hml : c.maxLocals = 3 := hml0
  have hown0 := findClass_of_methodNamed Bd.named
  have hown : s.vm.findClass "java/lang/StringUTF16" = some m.cls := hown0
  have hnm := (name_of_methodNamed Bd.named Bd.method).1
  have X0 : Stand p l e (own_r 0 0 0 0) s m #[(.ref a1), (.int 1), (.int p3)] below meth c s₁ [] 0 0 := Stand.of_body Bd
  have e0 : s₁.heap = h0 := by rw [← hh, Bd.state]; rfl
  have N0 := Fr.nil n0
  obtain ⟨S0, hS0⟩ : ∃ z, z = s₁.setTop (entryFrame m #[(.ref a1), (.int 1), (.int p3)] 3) := ⟨_, rfl⟩
  have pre0 : own_Go p e below S0 (s₁.setTop (mkF m 0 #[.val (.ref a1), .val (.int 1), .val (.int p3)] [])) := fun t k => by rw [hS0]; exact castTop (ef_putc_1_4 m a1 p3) k
  have fin : ∀ t, Steps p.tables e below S0 t → Steps p.tables e below (s₁.setTop (entryFrame m #[(.ref a1), (.int 1), (.int p3)] 3)) t := fun t k => by rw [hS0] at k; exact k
  have kc0 : Keep h0 h0 [a1] := Keep.refl _ _
  obtain ⟨T1, X1, e1, st1⟩ := getS2 X0 hx hZ hown (host := "") (Or.inl (hw _ (own_w 90 rfl))) Via.refl e0 (qU.1.ext O0.2) (g := (mkF m 0 #[.val (.ref a1), .val (.int 1), .val (.int p3)] [])) rfl (hb hby d20_0)
  have pre2 : own_Go p e below S0 (T1.setTop (mkF m 38 #[.val (.ref a1), .val (.int 3), .val (.int p3)] [(.int p3), (.int 2), (.ref a1)])) := by
    intro t kt
    refine pre0 t ?_
    refine st1 _ ?_
    refine XS.ifYes X1.here hx rfl (pc0 := 3) (pc' := 28) rfl (hb hby d20_3) rfl ((if0 _ _).trans (feq (by decide : ¬ ((1 : Int32) = (0 : Int32)))).2) (by decide) (by decide) ?_
    refine XS.iloadN X1.here hx rfl (hb hby d20_28) rfl ?_
    refine XS.iconst X1.here hx rfl (hb hby d20_29) ?_
    refine XS.ishl X1.here hx rfl (hb hby d20_30) rfl ?_
    refine XS.istoreN X1.here hx rfl (hb hby d20_31) rfl (l' := #[.val (.ref a1), .val (.int 2), .val (.int p3)]) rfl ?_
    show Steps p.tables e below (T1.setTop (mkF m 32 #[.val (.ref a1), .val (.int 2), .val (.int p3)] [])) _
    refine XS.aloadN X1.here hx rfl (hb hby d20_32) rfl rfl ?_
    refine XS.iloadN X1.here hx rfl (hb hby d20_33) rfl ?_
    refine XS.iinc X1.here hx rfl (hb hby d20_34) rfl (l' := #[.val (.ref a1), .val (.int 3), .val (.int p3)]) rfl ?_
    refine XS.iloadN X1.here hx rfl (hb hby d20_37) rfl ?_
    exact kt
  obtain ⟨T3, X3, e3, st3⟩ := getS2 X1 hx hZ hown (host := "") (Or.inl (hw _ (own_w 91 rfl))) Via.refl e1 (qU.2.1.ext O0.2) (g := (mkF m 38 #[.val (.ref a1), .val (.int 3), .val (.int p3)] [(.int p3), (.int 2), (.ref a1)])) rfl (hb hby d20_38)
  have pre4 : own_Go p e below S0 (T3.setTop (mkF m 43 #[.val (.ref a1), .val (.int 3), .val (.int p3)] [(.int ((p3 >>> ((0 : Int32) &&& 31)).toInt8.toInt32)), (.int 2), (.ref a1)])) := by
    intro t kt
    refine pre2 t ?_
    refine st3 _ ?_
    refine XS.ishr X3.here hx rfl (hb hby d20_41) rfl ?_
    refine XS.i2b X3.here hx rfl (hb hby d20_42) rfl ?_
    exact kt
  obtain ⟨cl5, Ar5, q5, Sz5, Ng5, Hs5, Gt5⟩ := id V1
  have hin5 : ¬ ((2 : Int32) < 0 ∨ cl5.slots.size ≤ ((2 : Int32)).toNatClampNeg) := inb_of Sz5 ⟨by decide, by decide⟩
  obtain ⟨T5, h5, X5, e5, W5, st5⟩ := stB X3 hx hZ e3 Ar5 (j := (2 : Int32)) hin5 (g := (mkF m 43 #[.val (.ref a1), .val (.int 3), .val (.int p3)] [(.int ((p3 >>> ((0 : Int32) &&& 31)).toInt8.toInt32)), (.int 2), (.ref a1)])) rfl rfl (hb hby d20_43)
  have N5 := Fr.snoc X5 N0 g1
  have zs6 : n0 ≤ h5.size := Nat.le_trans Z0 (Keep.of_wr W5).1
  have kc7 : Keep h0 h5 [a1] := kc0.wr W5 (Or.inl (List.mem_of_getElem? (i := 0) rfl))
  have V5 : Arv Z h5 a1 k1 .byte (4 : Int32) [u0, u1, (.int (nar .byte ((p3 >>> ((0 : Int32) &&& 31)).toInt8.toInt32))), u3] (.int 0) := Arv.set Ar5 q5 Sz5 Ng5 Hs5 Gt5 (fits_nar_byte _) W5 2 rfl (Nat.le_of_ble_eq_true rfl)
  have pre8 : own_Go p e below S0 (T5.setTop (mkF m 47 #[.val (.ref a1), .val (.int 3), .val (.int p3)] [(.int p3), (.int 3), (.ref a1)])) := by
    intro t kt
    refine pre4 t ?_
    refine st5 _ ?_
    refine XS.aloadN X5.here hx rfl (hb hby d20_44) rfl rfl ?_
    refine XS.iloadN X5.here hx rfl (hb hby d20_45) rfl ?_
    refine XS.iloadN X5.here hx rfl (hb hby d20_46) rfl ?_
    exact kt
  have f9 : Old Z n0 h5 := (O0.wr W5 g1)
  obtain ⟨T10, X10, e10, st10⟩ := getS2 X5 hx hZ hown (host := "") (Or.inl (hw _ (own_w 92 rfl))) Via.refl e5 (qU.2.2.ext f9.2) (g := (mkF m 47 #[.val (.ref a1), .val (.int 3), .val (.int p3)] [(.int p3), (.int 3), (.ref a1)])) rfl (hb hby d20_47)
  have pre11 : own_Go p e below S0 (T10.setTop (mkF m 52 #[.val (.ref a1), .val (.int 3), .val (.int p3)] [(.int ((p3 >>> ((8 : Int32) &&& 31)).toInt8.toInt32)), (.int 3), (.ref a1)])) := by
    intro t kt
    refine pre8 t ?_
    refine st10 _ ?_
    refine XS.ishr X10.here hx rfl (hb hby d20_50) rfl ?_
    refine XS.i2b X10.here hx rfl (hb hby d20_51) rfl ?_
    exact kt
  obtain ⟨cl12, Ar12, q12, Sz12, Ng12, Hs12, Gt12⟩ := id V5
  have hin12 : ¬ ((3 : Int32) < 0 ∨ cl12.slots.size ≤ ((3 : Int32)).toNatClampNeg) := inb_of Sz12 ⟨by decide, by decide⟩
  obtain ⟨T12, h12, X12, e12, W12, st12⟩ := stB X10 hx hZ e10 Ar12 (j := (3 : Int32)) hin12 (g := (mkF m 52 #[.val (.ref a1), .val (.int 3), .val (.int p3)] [(.int ((p3 >>> ((8 : Int32) &&& 31)).toInt8.toInt32)), (.int 3), (.ref a1)])) rfl rfl (hb hby d20_52)
  have N12 := Fr.snoc X12 N5 g1
  have zs13 : n0 ≤ h12.size := Nat.le_trans zs6 (Keep.of_wr W12).1
  have kc14 : Keep h0 h12 [a1] := kc7.wr W12 (Or.inl (List.mem_of_getElem? (i := 0) rfl))
  have V12 : Arv Z h12 a1 k1 .byte (4 : Int32) [u0, u1, (.int (nar .byte ((p3 >>> ((0 : Int32) &&& 31)).toInt8.toInt32))), (.int (nar .byte ((p3 >>> ((8 : Int32) &&& 31)).toInt8.toInt32)))] (.int 0) := Arv.set Ar12 q12 Sz12 Ng12 Hs12 Gt12 (fits_nar_byte _) W12 3 rfl (Nat.le_of_ble_eq_true rfl)
  have pre15 : own_Go p e below S0 (T12.setTop (mkF m 53 #[.val (.ref a1), .val (.int 3), .val (.int p3)] [])) := by
    intro t kt
    refine pre11 t ?_
    refine st12 _ ?_
    exact kt
  obtain ⟨fs, hr, hrun, hended, hW, hsame⟩ := X12.leave (v := none) (fun _ => rfl)
  refine ⟨_, _, fin _ (pre15 _ ?_), hrun, hended, _, _, rfl, ?_, ⟨_, rfl⟩, hW, hsame.mono (by decide) (by decide)⟩
  · exact X12.returnOut hx Bd.returns (hb hby d20_53) hr
  · show Qputc_1_4 Z a1 p3 k1 u0 u1 u2 u3 h0 n0 _ T12.heap _
    rw [e12]
    exact ⟨rfl, N12, kc14, V12⟩

theorem ef_toB_2 (m : MethodId) (x0 : Addr) : entryFrame m #[(.ref x0), (.int 0), (.int 2)] 5 = mkF m 0 #[.val (.ref x0), .val (.int 0), .val (.int 2), .unset, .unset] [] := by first | (simp [entryFrame, mkF, argsToLocals, Value.category]; done) | rfl
def QtoB_2 (Z : State) (a1 : Addr) (kc : ClassId) (c0 : Int32) (c1 : Int32) (h0 : Heap) (n0 : Nat) (v : Option Value) (h : Heap) (L : List Loc) : Prop := ∃ b : Addr, ∃ kb : ClassId, v = (some (.ref b)) ∧ Fr n0 L ∧ Keep h0 h [] ∧ h0.size ≤ b ∧ Arv Z h b kb .byte (4 : Int32) [(.int (nar .byte ((c0 >>> ((0 : Int32) &&& 31)).toInt8.toInt32))), (.int (nar .byte ((c0 >>> ((8 : Int32) &&& 31)).toInt8.toInt32))), (.int (nar .byte ((c1 >>> ((0 : Int32) &&& 31)).toInt8.toInt32))), (.int (nar .byte ((c1 >>> ((8 : Int32) &&& 31)).toInt8.toInt32)))] (.int 0)
set_option maxRecDepth 65536 in
set_option maxHeartbeats 40000000 in
theorem rmtoB_2 (l : Launch) (Z : State) (a0 : Array Value) (hw : ∀ d ∈ tables_1, d.before a0 Z = true) (ws : List Jvm.Cond) (a1 : Addr) (kc : ClassId) (c0 : Int32) (c1 : Int32) (h0 : Heap) (n0 : Nat) (Z0 : n0 ≤ h0.size) (O0 : Old Z n0 h0) (qU : (own_SU Z)) (VC : Arv Z h0 a1 kc .char (2 : Int32) [(.int c0), (.int c1)] (.int 0)) :
    MetFree l own_m21 (head1 (Jvm.Cond.code own_m21 jdk_52_method_14_code 5 (some (.array .byte)) :: ws) (own_r 2 1 4 24)) (fun a U => a = #[(.ref a1), (.int 0), (.int 2)] ∧ Z.Warmed39 U.vm ∧ U.heap = h0) (fun _ _ _ _ _ => True) (fun _ U o U' => ∃ v L, o = .returned v ∧ QtoB_2 Z a1 kc c0 c1 h0 n0 v U'.heap L ∧ FrameEnd U o U' L (own_r 2 1 4 24).cells (own_r 2 1 4 24).slots) := by
  refine MetFree.of_bodySF (plainFor_of_name pn_17) hisR ?_
  intro p e s m args below meth c s₁ Bd hml0 hP hK
  obtain ⟨rfl, hZ, hh⟩ := hP
  have hx := Bd.exec
  have hby := Bd.bytes
  have hml : c.maxLocals = 5 := hml0
  have hown0 := findClass_of_methodNamed Bd.named
  have hown : s.vm.findClass "java/lang/StringUTF16" = some m.cls := hown0
  have hnm := (name_of_methodNamed Bd.named Bd.method).1
  have X0 : Stand p l e (own_r 2 1 4 24) s m #[(.ref a1), (.int 0), (.int 2)] below meth c s₁ [] 0 0 := Stand.of_body Bd
  have e0 : s₁.heap = h0 := by rw [← hh, Bd.state]; rfl
  have N0 := Fr.nil n0
  obtain ⟨S0, hS0⟩ : ∃ z, z = s₁.setTop (entryFrame m #[(.ref a1), (.int 0), (.int 2)] 5) := ⟨_, rfl⟩
  have pre0 : own_Go p e below S0 (s₁.setTop (mkF m 0 #[.val (.ref a1), .val (.int 0), .val (.int 2), .unset, .unset] [])) := fun t k => by rw [hS0]; exact castTop (ef_toB_2 m a1) k
  have fin : ∀ t, Steps p.tables e below S0 t → Steps p.tables e below (s₁.setTop (entryFrame m #[(.ref a1), (.int 0), (.int 2)] 5)) t := fun t k => by rw [hS0] at k; exact k
  have kc0 : Keep h0 h0 [] := Keep.refl _ _
  have pre1 : own_Go p e below S0 (s₁.setTop (mkF m 1 #[.val (.ref a1), .val (.int 0), .val (.int 2), .unset, .unset] [(.int 2)])) := by
    intro t kt
    refine pre0 t ?_
    refine XS.iloadN X0.here hx rfl (hb hby d17_0) rfl ?_
    exact kt
  obtain ⟨_, _, ⟨T2, L2, k2, n2⟩, -, X2, ⟨Lc2, hQ2, l2, y2, z2⟩, st2⟩ := Jvm.LawKit.callS X0 hx (y := own_m18) hown (mvT hZ (hw _ (own_w 80 rfl))) (mvT hZ (hw _ (own_w 81 rfl))) (mvT hZ (hw _ (own_w 40 rfl))) (mvT hZ (hw _ (own_w 82 rfl))) (by decide) (backOf (W := 0) (rmnfor_2 l Z a0 hw []  h0 n0 Z0 ) hZ (hw _ (own_w 82 rfl)) (hw _ (own_w 40 rfl)) (by decide) (by decide)) (g := (mkF m 1 #[.val (.ref a1), .val (.int 0), .val (.int 2), .unset, .unset] [(.int 2)])) rfl (by rw [hml]; rfl) (argsL := [(.int 2)]) (rest := []) (lenOf pd_3 rfl) rfl (by show 2 * 0 + _ ≤ _; exact Nat.le_of_eq rfl) (hb hby d17_1) (fun _ _ => ⟨rfl, e0, (by decide : 0 + 1 ≤ _), (by decide : 0 + 4 ≤ _)⟩)
  dsimp only [Pt.U, Pt.locs, Pt.cells, Pt.slots] at X2 l2 y2 z2 st2 hQ2
  subst l2 y2 z2
  obtain ⟨b3, kb4, rfl, Nq2, K2, g5, g6⟩ := hQ2
  have N2 := Fr.app N0 Nq2
  have ne7 : a1 ≠ b3 := Nat.ne_of_lt (Nat.lt_of_lt_of_le VC.lt g5)
  have ge8 : n0 ≤ b3 := Nat.le_trans Z0 g5
  have sz9 : h0.size ≤ b3 := Nat.le_trans kc0.1 g5
  have zs10 : n0 ≤ T2.heap.size := Nat.le_trans Z0 K2.1
  have kc11 : Keep h0 T2.heap [] := kc0.trans K2 all0
  have pre12 : own_Go p e below S0 (T2.setTop (mkF m 19 #[.val (.ref a1), .val (.int 0), .val (.int 2), .val (.ref b3), .val (.int 0)] [(.int 0), (.ref a1), (.int 0), (.ref b3)])) := by
    intro t kt
    refine pre1 t ?_
    refine st2 _ ?_
    show Steps p.tables e below (T2.setTop (mkF m 4 #[.val (.ref a1), .val (.int 0), .val (.int 2), .unset, .unset] [(.ref b3)])) _
    refine XS.astoreN X2.here hx rfl (hb hby d17_4) rfl rfl (l' := #[.val (.ref a1), .val (.int 0), .val (.int 2), .val (.ref b3), .unset]) rfl ?_
    refine XS.iconst X2.here hx rfl (hb hby d17_5) ?_
    refine XS.istore X2.here hx rfl (hb hby d17_6) rfl (l' := #[.val (.ref a1), .val (.int 0), .val (.int 2), .val (.ref b3), .val (.int 0)]) rfl ?_
    refine XS.iload X2.here hx rfl (hb hby d17_8) rfl ?_
    refine XS.iloadN X2.here hx rfl (hb hby d17_10) rfl ?_
    show Steps p.tables e below (T2.setTop (mkF m 11 #[.val (.ref a1), .val (.int 0), .val (.int 2), .val (.ref b3), .val (.int 0)] [(.int 2), (.int 0)])) _
    refine XS.icmpNo X2.here hx rfl (hb hby d17_11) rfl (tlt (by decide : (0 : Int32) < (2 : Int32))).2.1 ?_
    refine XS.aloadN X2.here hx rfl (hb hby d17_14) rfl rfl ?_
    refine XS.iload X2.here hx rfl (hb hby d17_15) rfl ?_
    refine XS.aloadN X2.here hx rfl (hb hby d17_17) rfl rfl ?_
    refine XS.iloadN X2.here hx rfl (hb hby d17_18) rfl ?_
    exact kt
  have f13 : Arv Z T2.heap a1 kc .char (2 : Int32) [(.int c0), (.int c1)] (.int 0) := (VC.keep K2 nin0)
  obtain ⟨cl14, Ar14, -, Sz14, -, Hs14, -⟩ := id f13
  have hin14 : ¬ ((0 : Int32) < 0 ∨ cl14.slots.size ≤ ((0 : Int32)).toNatClampNeg) := inb_of Sz14 ⟨by decide, by decide⟩
  have pre15 : own_Go p e below S0 (T2.setTop (mkF m 20 #[.val (.ref a1), .val (.int 0), .val (.int 2), .val (.ref b3), .val (.int 0)] [(.int c0), (.int 0), (.ref b3)])) := by
    intro t kt
    refine pre12 t ?_
    refine X2.caload hx (j := (0 : Int32)) (v := (.int c0)) Ar14.1 (State.isArrayOf_alike hZ.alike Ar14.2.1) Ar14.2.2 hin14 (Hs14.at hin14 rfl) (g := (mkF m 19 #[.val (.ref a1), .val (.int 0), .val (.int 2), .val (.ref b3), .val (.int 0)] [(.int 0), (.ref a1), (.int 0), (.ref b3)])) rfl rfl (hb hby d17_19) _ ?_
    exact kt
  have f16 : Old Z n0 T2.heap := (O0.keep K2 all0)
  obtain ⟨_, _, ⟨T17, L17, k17, n17⟩, -, X17, ⟨Lc17, hQ17, l17, y17, z17⟩, st17⟩ := Jvm.LawKit.callS X2 hx (y := own_m20) hown (mvT hZ (hw _ (own_w 87 rfl))) (mvT hZ (hw _ (own_w 88 rfl))) (mvT hZ (hw _ (own_w 40 rfl))) (mvT hZ (hw _ (own_w 89 rfl))) (by decide) (backOf (W := 0) (rmputc_0_4 l Z a0 hw [] b3 c0 kb4 (.int 0) (.int 0) (.int 0) (.int 0) T2.heap n0 zs10 f16 qU ge8 g6) hZ (hw _ (own_w 89 rfl)) (hw _ (own_w 40 rfl)) (by decide) (by decide)) (g := (mkF m 20 #[.val (.ref a1), .val (.int 0), .val (.int 2), .val (.ref b3), .val (.int 0)] [(.int c0), (.int 0), (.ref b3)])) rfl (by rw [hml]; rfl) (argsL := [(.ref b3), (.int 0), (.int c0)]) (rest := []) (lenOf pd_4 rfl) rfl (by show 2 * 0 + _ ≤ _; exact Nat.le_of_eq rfl) (hb hby d17_20) (fun _ _ => ⟨rfl, rfl, (by decide : 1 + 0 ≤ _), (by decide : 4 + 0 ≤ _)⟩)
  dsimp only [Pt.U, Pt.locs, Pt.cells, Pt.slots] at X17 l17 y17 z17 st17 hQ17
  subst l17 y17 z17
  obtain ⟨rfl, Nq17, K17, g18⟩ := hQ17
  have N17 := Fr.app N2 Nq17
  have zs19 : n0 ≤ T17.heap.size := Nat.le_trans zs10 K17.1
  have kc20 : Keep h0 T17.heap [] := kc11.trans K17 (allS (Or.inr sz9) all0)
  have pre21 : own_Go p e below S0 (T17.setTop (mkF m 19 #[.val (.ref a1), .val (.int 1), .val (.int 2), .val (.ref b3), .val (.int 1)] [(.int 1), (.ref a1), (.int 1), (.ref b3)])) := by
    intro t kt
    refine pre15 t ?_
    refine st17 _ ?_
    show Steps p.tables e below (T17.setTop (mkF m 23 #[.val (.ref a1), .val (.int 0), .val (.int 2), .val (.ref b3), .val (.int 0)] [])) _
    refine XS.iinc X17.here hx rfl (hb hby d17_23) rfl (l' := #[.val (.ref a1), .val (.int 1), .val (.int 2), .val (.ref b3), .val (.int 0)]) rfl ?_
    refine XS.iinc X17.here hx rfl (hb hby d17_26) rfl (l' := #[.val (.ref a1), .val (.int 1), .val (.int 2), .val (.ref b3), .val (.int 1)]) rfl ?_
    refine XS.goto X17.here hx rfl (pc0 := 29) (pc' := 8) rfl (hb hby d17_29) (by decide) (by decide) ?_
    refine XS.iload X17.here hx rfl (hb hby d17_8) rfl ?_
    refine XS.iloadN X17.here hx rfl (hb hby d17_10) rfl ?_
    show Steps p.tables e below (T17.setTop (mkF m 11 #[.val (.ref a1), .val (.int 1), .val (.int 2), .val (.ref b3), .val (.int 1)] [(.int 2), (.int 1)])) _
    refine XS.icmpNo X17.here hx rfl (hb hby d17_11) rfl (tlt (by decide : (1 : Int32) < (2 : Int32))).2.1 ?_
    refine XS.aloadN X17.here hx rfl (hb hby d17_14) rfl rfl ?_
    refine XS.iload X17.here hx rfl (hb hby d17_15) rfl ?_
    refine XS.aloadN X17.here hx rfl (hb hby d17_17) rfl rfl ?_
    refine XS.iloadN X17.here hx rfl (hb hby d17_18) rfl ?_
    exact kt
  have f22 : Arv Z T17.heap a1 kc .char (2 : Int32) [(.int c0), (.int c1)] (.int 0) := (f13.keep K17 (ninS ne7 nin0))
  obtain ⟨cl23, Ar23, -, Sz23, -, Hs23, -⟩ := id f22
  have hin23 : ¬ ((1 : Int32) < 0 ∨ cl23.slots.size ≤ ((1 : Int32)).toNatClampNeg) := inb_of Sz23 ⟨by decide, by decide⟩
  have pre24 : own_Go p e below S0 (T17.setTop (mkF m 20 #[.val (.ref a1), .val (.int 1), .val (.int 2), .val (.ref b3), .val (.int 1)] [(.int c1), (.int 1), (.ref b3)])) := by
    intro t kt
    refine pre21 t ?_
    refine X17.caload hx (j := (1 : Int32)) (v := (.int c1)) Ar23.1 (State.isArrayOf_alike hZ.alike Ar23.2.1) Ar23.2.2 hin23 (Hs23.at hin23 rfl) (g := (mkF m 19 #[.val (.ref a1), .val (.int 1), .val (.int 2), .val (.ref b3), .val (.int 1)] [(.int 1), (.ref a1), (.int 1), (.ref b3)])) rfl rfl (hb hby d17_19) _ ?_
    exact kt
  have f25 : Old Z n0 T17.heap := (f16.keep K17 (allS ge8 all0))
  obtain ⟨_, _, ⟨T26, L26, k26, n26⟩, -, X26, ⟨Lc26, hQ26, l26, y26, z26⟩, st26⟩ := Jvm.LawKit.callS X17 hx (y := own_m20) hown (mvT hZ (hw _ (own_w 87 rfl))) (mvT hZ (hw _ (own_w 88 rfl))) (mvT hZ (hw _ (own_w 40 rfl))) (mvT hZ (hw _ (own_w 89 rfl))) (by decide) (backOf (W := 0) (rmputc_1_4 l Z a0 hw [] b3 c1 kb4 (.int (nar .byte ((c0 >>> ((0 : Int32) &&& 31)).toInt8.toInt32))) (.int (nar .byte ((c0 >>> ((8 : Int32) &&& 31)).toInt8.toInt32))) (.int 0) (.int 0) T17.heap n0 zs19 f25 qU ge8 g18) hZ (hw _ (own_w 89 rfl)) (hw _ (own_w 40 rfl)) (by decide) (by decide)) (g := (mkF m 20 #[.val (.ref a1), .val (.int 1), .val (.int 2), .val (.ref b3), .val (.int 1)] [(.int c1), (.int 1), (.ref b3)])) rfl (by rw [hml]; rfl) (argsL := [(.ref b3), (.int 1), (.int c1)]) (rest := []) (lenOf pd_4 rfl) rfl (by show 2 * 0 + _ ≤ _; exact Nat.le_of_eq rfl) (hb hby d17_20) (fun _ _ => ⟨rfl, rfl, (by decide : 1 + 0 ≤ _), (by decide : 4 + 0 ≤ _)⟩)
  dsimp only [Pt.U, Pt.locs, Pt.cells, Pt.slots] at X26 l26 y26 z26 st26 hQ26
  subst l26 y26 z26
  obtain ⟨rfl, Nq26, K26, g27⟩ := hQ26
  have N26 := Fr.app N17 Nq26
  have zs28 : n0 ≤ T26.heap.size := Nat.le_trans zs19 K26.1
  have kc29 : Keep h0 T26.heap [] := kc20.trans K26 (allS (Or.inr sz9) all0)
  have pre30 : own_Go p e below S0 (T26.setTop (mkF m 33 #[.val (.ref a1), .val (.int 2), .val (.int 2), .val (.ref b3), .val (.int 2)] [(.ref b3)])) := by
    intro t kt
    refine pre24 t ?_
    refine st26 _ ?_
    show Steps p.tables e below (T26.setTop (mkF m 23 #[.val (.ref a1), .val (.int 1), .val (.int 2), .val (.ref b3), .val (.int 1)] [])) _
    refine XS.iinc X26.here hx rfl (hb hby d17_23) rfl (l' := #[.val (.ref a1), .val (.int 2), .val (.int 2), .val (.ref b3), .val (.int 1)]) rfl ?_
    refine XS.iinc X26.here hx rfl (hb hby d17_26) rfl (l' := #[.val (.ref a1), .val (.int 2), .val (.int 2), .val (.ref b3), .val (.int 2)]) rfl ?_
    refine XS.goto X26.here hx rfl (pc0 := 29) (pc' := 8) rfl (hb hby d17_29) (by decide) (by decide) ?_
    refine XS.iload X26.here hx rfl (hb hby d17_8) rfl ?_
    refine XS.iloadN X26.here hx rfl (hb hby d17_10) rfl ?_
    show Steps p.tables e below (T26.setTop (mkF m 11 #[.val (.ref a1), .val (.int 2), .val (.int 2), .val (.ref b3), .val (.int 2)] [(.int 2), (.int 2)])) _
    refine XS.icmpYes X26.here hx rfl (pc0 := 11) (pc' := 32) rfl (hb hby d17_11) rfl (flt (by decide : ¬ ((2 : Int32) < (2 : Int32)))).2.1 (by decide) (by decide) ?_
    refine XS.aloadN X26.here hx rfl (hb hby d17_32) rfl rfl ?_
    exact kt
  obtain ⟨fs, hr, hrun, hended, hW, hsame⟩ := X26.leave (v := some (.ref b3)) (fun h => by rw [Bd.returns] at h; cases h)
  refine ⟨_, _, fin _ (pre30 _ ?_), hrun, hended, _, _, rfl, ?_, ⟨_, rfl⟩, hW, hsame.mono (by decide) (by decide)⟩
  · jvm_step X26.here [X26.here.top, hx, (hb hby d17_33), X26.method', Bd.returns, Value.isRef, FieldType.isReference]
    first | (intro acts; rw [hr _ acts rfl rfl rfl]) | rw [hr _ _ rfl rfl rfl]
    exact Steps.refl _
  · show QtoB_2 Z a1 kc c0 c1 h0 n0 _ T26.heap _
    exact ⟨b3, kb4, rfl, N26, kc29, sz9, g27⟩

theorem ef_cmp3_2 (m : MethodId) (x0 : Addr) : entryFrame m #[(.ref x0), (.int 0), (.int 2)] 6 = mkF m 0 #[.val (.ref x0), .val (.int 0), .val (.int 2), .unset, .unset, .unset] [] := by first | (simp [entryFrame, mkF, argsToLocals, Value.category]; done) | rfl
def Qcmp3_2 (Z : State) (a1 : Addr) (kc : ClassId) (c0 : Int32) (c1 : Int32) (h0 : Heap) (n0 : Nat) (v : Option Value) (h : Heap) (L : List Loc) : Prop := ∃ b : Addr, ∃ kb : ClassId, v = (some (.ref b)) ∧ Fr n0 L ∧ Keep h0 h [] ∧ h0.size ≤ b ∧ ((own_Lat [c0, c1] ∧ Arv Z h b kb .byte (2 : Int32) [(.int (nar .byte (c0.toInt8.toInt32))), (.int (nar .byte (c1.toInt8.toInt32)))] (.int 0)) ∨ (own_Chr [c0, c1] ∧ Arv Z h b kb .byte (4 : Int32) [(.int (nar .byte ((c0 >>> ((0 : Int32) &&& 31)).toInt8.toInt32))), (.int (nar .byte ((c0 >>> ((8 : Int32) &&& 31)).toInt8.toInt32))), (.int (nar .byte ((c1 >>> ((0 : Int32) &&& 31)).toInt8.toInt32))), (.int (nar .byte ((c1 >>> ((8 : Int32) &&& 31)).toInt8.toInt32)))] (.int 0)))
set_option maxRecDepth 65536 in
set_option maxHeartbeats 40000000 in
theorem rmcmp3_2 (l : Launch) (Z : State) (a0 : Array Value) (hw : ∀ d ∈ tables_1, d.before a0 Z = true) (ws : List Jvm.Cond) (a1 : Addr) (kc : ClassId) (c0 : Int32) (c1 : Int32) (h0 : Heap) (n0 : Nat) (Z0 : n0 ≤ h0.size) (O0 : Old Z n0 h0) (qU : (own_SU Z)) (VC : Arv Z h0 a1 kc .char (2 : Int32) [(.int c0), (.int c1)] (.int 0)) :
    MetFree l own_m14 (head1 (Jvm.Cond.code own_m14 jdk_52_method_16_code 6 (some (.array .byte)) :: ws) (own_r 3 2 6 40)) (fun a U => a = #[(.ref a1), (.int 0), (.int 2)] ∧ Z.Warmed39 U.vm ∧ U.heap = h0) (fun _ _ _ _ _ => True) (fun _ U o U' => ∃ v L, o = .returned v ∧ Qcmp3_2 Z a1 kc c0 c1 h0 n0 v U'.heap L ∧ FrameEnd U o U' L (own_r 3 2 6 40).cells (own_r 3 2 6 40).slots) := by
  refine MetFree.of_bodySF (plainFor_of_name pn_7) hisR ?_
  intro p e s m args below meth c s₁ Bd hml0 hP hK
  obtain ⟨rfl, hZ, hh⟩ := hP
  have hx := Bd.exec
  have hby := Bd.bytes
  have hml : c.maxLocals = 6 := hml0
  have hown0 := findClass_of_methodNamed Bd.named
  have hown : s.vm.findClass "java/lang/StringUTF16" = some m.cls := hown0
  have hnm := (name_of_methodNamed Bd.named Bd.method).1
  have X0 : Stand p l e (own_r 3 2 6 40) s m #[(.ref a1), (.int 0), (.int 2)] below meth c s₁ [] 0 0 := Stand.of_body Bd
  have e0 : s₁.heap = h0 := by rw [← hh, Bd.state]; rfl
  have N0 := Fr.nil n0
  obtain ⟨S0, hS0⟩ : ∃ z, z = s₁.setTop (entryFrame m #[(.ref a1), (.int 0), (.int 2)] 6) := ⟨_, rfl⟩
  have pre0 : own_Go p e below S0 (s₁.setTop (mkF m 0 #[.val (.ref a1), .val (.int 0), .val (.int 2), .unset, .unset, .unset] [])) := fun t k => by rw [hS0]; exact castTop (ef_cmp3_2 m a1) k
  have fin : ∀ t, Steps p.tables e below S0 t → Steps p.tables e below (s₁.setTop (entryFrame m #[(.ref a1), (.int 0), (.int 2)] 6)) t := fun t k => by rw [hS0] at k; exact k
  have kc0 : Keep h0 h0 [] := Keep.refl _ _
  have pre1 : own_Go p e below S0 (s₁.setTop (mkF m 1 #[.val (.ref a1), .val (.int 0), .val (.int 2), .unset, .unset, .unset] [(.int 2)])) := by
    intro t kt
    refine pre0 t ?_
    refine XS.iloadN X0.here hx rfl (hb hby d7_0) rfl ?_
    exact kt
  obtain ⟨T2, h2, k2, X2, e2, E2, A2, st2⟩ := newP X0 hx hZ (hw _ (own_w 16 rfl)) e0 (g := (mkF m 1 #[.val (.ref a1), .val (.int 0), .val (.int 2), .unset, .unset, .unset] [(.int 2)])) rfl (hb hby d7_1) rfl (by decide) (cap := 2) (by decide) (by decide) (by decide) (by decide)
  obtain ⟨b2, g2⟩ : ∃ z, z = h0.size := ⟨_, rfl⟩
  rw [← g2] at A2 st2
  have ne3 : a1 ≠ b2 := Nat.ne_of_lt (Nat.lt_of_lt_of_le VC.lt (Nat.le_of_eq g2.symm))
  have ge4 : n0 ≤ b2 := Nat.le_trans Z0 (Nat.le_of_eq g2.symm)
  have sz5 : h0.size ≤ b2 := Nat.le_trans kc0.1 (Nat.le_of_eq g2.symm)
  have zs6 : n0 ≤ h2.size := Nat.le_trans Z0 E2.1
  have kc7 : Keep h0 h2 [] := kc0.ext E2
  have V2 : Arv Z h2 b2 k2 .byte (2 : Int32) [(.int 0), (.int 0)] (.int 0) := (Arv.new A2 (by decide)).pad (pad_rep [] (.int 0) 2)
  have pre8 : own_Go p e below S0 (T2.setTop (mkF m 9 #[.val (.ref a1), .val (.int 0), .val (.int 2), .val (.ref b2), .unset, .unset] [(.int 2), (.int 0), (.ref b2), (.int 0), (.ref a1)])) := by
    intro t kt
    refine pre1 t ?_
    refine st2 _ ?_
    refine XS.astoreN X2.here hx rfl (hb hby d7_3) rfl rfl (l' := #[.val (.ref a1), .val (.int 0), .val (.int 2), .val (.ref b2), .unset, .unset]) rfl ?_
    refine XS.aloadN X2.here hx rfl (hb hby d7_4) rfl rfl ?_
    refine XS.iloadN X2.here hx rfl (hb hby d7_5) rfl ?_
    refine XS.aloadN X2.here hx rfl (hb hby d7_6) rfl rfl ?_
    refine XS.iconst X2.here hx rfl (hb hby d7_7) ?_
    show Steps p.tables e below (T2.setTop (mkF m 8 #[.val (.ref a1), .val (.int 0), .val (.int 2), .val (.ref b2), .unset, .unset] [(.int 0), (.ref b2), (.int 0), (.ref a1)])) _
    refine XS.iloadN X2.here hx rfl (hb hby d7_8) rfl ?_
    exact kt
  have f9 : Arv Z h2 a1 kc .char (2 : Int32) [(.int c0), (.int c1)] (.int 0) := (VC.ext E2)
  obtain ⟨_, _, ⟨T10, L10, k10, n10⟩, -, X10, ⟨Lc10, hQ10, l10, y10, z10⟩, st10⟩ := Jvm.LawKit.callS X2 hx (y := own_m15) hown (mvT hZ (hw _ (own_w 42 rfl))) (mvT hZ (hw _ (own_w 43 rfl))) (mvT hZ (hw _ (own_w 40 rfl))) (mvT hZ (hw _ (own_w 44 rfl))) (by decide) (backOf (W := 0) (rmcmp5_2 l Z a0 hw [] a1 b2 kc k2 c0 c1 h2 n0 zs6 f9 ge4 V2 ne3) hZ (hw _ (own_w 44 rfl)) (hw _ (own_w 40 rfl)) (by decide) (by decide)) (g := (mkF m 9 #[.val (.ref a1), .val (.int 0), .val (.int 2), .val (.ref b2), .unset, .unset] [(.int 2), (.int 0), (.ref b2), (.int 0), (.ref a1)])) rfl (by rw [hml]; rfl) (argsL := [(.ref a1), (.int 0), (.ref b2), (.int 0), (.int 2)]) (rest := []) (lenOf pd_5 rfl) rfl (by show 2 * 0 + _ ≤ _; exact Nat.le_of_eq rfl) (hb hby d7_9) (fun _ _ => ⟨rfl, e2, (by decide : 1 + 0 ≤ _), (by decide : 2 + 0 ≤ _)⟩)
  dsimp only [Pt.U, Pt.locs, Pt.cells, Pt.slots] at X10 l10 y10 z10 st10 hQ10
  subst l10 y10 z10
  obtain ⟨r11, rfl, Nq10, K10, g12⟩ := hQ10
  have N10 := Fr.app N0 Nq10
  have zs13 : n0 ≤ T10.heap.size := Nat.le_trans zs6 K10.1
  have kc14 : Keep h0 T10.heap [] := kc7.trans K10 (allS (Or.inr sz5) all0)
  have pre15 : own_Go p e below S0 (T10.setTop (mkF m 12 #[.val (.ref a1), .val (.int 0), .val (.int 2), .val (.ref b2), .unset, .unset] [(.int r11)])) := by
    intro t kt
    refine pre8 t ?_
    refine st10 _ ?_
    show Steps p.tables e below (T10.setTop (mkF m 12 #[.val (.ref a1), .val (.int 0), .val (.int 2), .val (.ref b2), .unset, .unset] [(.int r11)])) _
    exact kt
  obtain ⟨hr, hl, hv⟩ | ⟨hr, hg⟩ | ⟨hr, hg⟩ := g12
  · have pre16 : own_Go p e below S0 (T10.setTop (mkF m 12 #[.val (.ref a1), .val (.int 0), .val (.int 2), .val (.ref b2), .unset, .unset] [(.int 2)])) := by
      intro t kt
      refine pre15 t ?_
      rw [hr]
      exact kt
    have pre17 : own_Go p e below S0 (T10.setTop (mkF m 58 #[.val (.ref a1), .val (.int 0), .val (.int 2), .val (.ref b2), .val (.int 2), .unset] [(.ref b2)])) := by
      intro t kt
      refine pre16 t ?_
      refine XS.istore X10.here hx rfl (hb hby d7_12) rfl (l' := #[.val (.ref a1), .val (.int 0), .val (.int 2), .val (.ref b2), .val (.int 2), .unset]) rfl ?_
      refine XS.iload X10.here hx rfl (hb hby d7_14) rfl ?_
      refine XS.iloadN X10.here hx rfl (hb hby d7_16) rfl ?_
      refine XS.icmpYes X10.here hx rfl (pc0 := 17) (pc' := 57) rfl (hb hby d7_17) rfl (teq (by decide : (2 : Int32) = (2 : Int32))).1 (by decide) (by decide) ?_
      refine XS.aloadN X10.here hx rfl (hb hby d7_57) rfl rfl ?_
      exact kt
    obtain ⟨fs, hr, hrun, hended, hW, hsame⟩ := X10.leave (v := some (.ref b2)) (fun h => by rw [Bd.returns] at h; cases h)
    refine ⟨_, _, fin _ (pre17 _ ?_), hrun, hended, _, _, rfl, ?_, ⟨_, rfl⟩, hW, hsame.mono (by decide) (by decide)⟩
    · jvm_step X10.here [X10.here.top, hx, (hb hby d7_58), X10.method', Bd.returns, Value.isRef, FieldType.isReference]
      first | (intro acts; rw [hr _ acts rfl rfl rfl]) | rw [hr _ _ rfl rfl rfl]
      exact Steps.refl _
    · show Qcmp3_2 Z a1 kc c0 c1 h0 n0 _ T10.heap _
      exact ⟨b2, k2, rfl, N10, kc14, sz5, (Or.inl ⟨hl, hv⟩)⟩
  · have pre18 : own_Go p e below S0 (T10.setTop (mkF m 12 #[.val (.ref a1), .val (.int 0), .val (.int 2), .val (.ref b2), .unset, .unset] [(.int 0)])) := by
      intro t kt
      refine pre15 t ?_
      rw [hr]
      exact kt
    have pre19 : own_Go p e below S0 (T10.setTop (mkF m 23 #[.val (.ref a1), .val (.int 0), .val (.int 2), .val (.ref b2), .val (.int 0), .unset] [(.int 2), (.int 0), (.ref a1)])) := by
      intro t kt
      refine pre18 t ?_
      refine XS.istore X10.here hx rfl (hb hby d7_12) rfl (l' := #[.val (.ref a1), .val (.int 0), .val (.int 2), .val (.ref b2), .val (.int 0), .unset]) rfl ?_
      refine XS.iload X10.here hx rfl (hb hby d7_14) rfl ?_
      refine XS.iloadN X10.here hx rfl (hb hby d7_16) rfl ?_
      refine XS.icmpNo X10.here hx rfl (hb hby d7_17) rfl (feq (by decide : ¬ ((0 : Int32) = (2 : Int32)))).1 ?_
      refine XS.aloadN X10.here hx rfl (hb hby d7_20) rfl rfl ?_
      refine XS.iloadN X10.here hx rfl (hb hby d7_21) rfl ?_
      show Steps p.tables e below (T10.setTop (mkF m 22 #[.val (.ref a1), .val (.int 0), .val (.int 2), .val (.ref b2), .val (.int 0), .unset] [(.int 0), (.ref a1)])) _
      refine XS.iloadN X10.here hx rfl (hb hby d7_22) rfl ?_
      exact kt
    have f20 : Old Z n0 T10.heap := ((O0.ext E2).keep K10 (allS ge4 all0))
    have f21 : Arv Z T10.heap a1 kc .char (2 : Int32) [(.int c0), (.int c1)] (.int 0) := (f9.keep K10 (ninS ne3 nin0))
    obtain ⟨_, _, ⟨T22, L22, k22, n22⟩, -, X22, ⟨Lc22, hQ22, l22, y22, z22⟩, st22⟩ := Jvm.LawKit.callS X10 hx (y := own_m21) hown (mvT hZ (hw _ (own_w 77 rfl))) (mvT hZ (hw _ (own_w 78 rfl))) (mvT hZ (hw _ (own_w 40 rfl))) (mvT hZ (hw _ (own_w 79 rfl))) (by decide) (backOf (W := 0) (rmtoB_2 l Z a0 hw [] a1 kc c0 c1 T10.heap n0 zs13 f20 qU f21) hZ (hw _ (own_w 79 rfl)) (hw _ (own_w 40 rfl)) (by decide) (by decide)) (g := (mkF m 23 #[.val (.ref a1), .val (.int 0), .val (.int 2), .val (.ref b2), .val (.int 0), .unset] [(.int 2), (.int 0), (.ref a1)])) rfl (by rw [hml]; rfl) (argsL := [(.ref a1), (.int 0), (.int 2)]) (rest := []) (lenOf pd_6 rfl) rfl (by show 2 * 0 + _ ≤ _; exact Nat.le_of_eq rfl) (hb hby d7_23) (fun _ _ => ⟨rfl, rfl, (by decide : 1 + 1 ≤ _), (by decide : 2 + 4 ≤ _)⟩)
    dsimp only [Pt.U, Pt.locs, Pt.cells, Pt.slots] at X22 l22 y22 z22 st22 hQ22
    subst l22 y22 z22
    obtain ⟨b23, kb24, rfl, Nq22, K22, g25, g26⟩ := hQ22
    have N22 := Fr.app N10 Nq22
    have ne27 : a1 ≠ b23 := Nat.ne_of_lt (Nat.lt_of_lt_of_le f21.lt g25)
    have ge28 : n0 ≤ b23 := Nat.le_trans zs13 g25
    have sz29 : h0.size ≤ b23 := Nat.le_trans kc14.1 g25
    have zs30 : n0 ≤ T22.heap.size := Nat.le_trans zs13 K22.1
    have kc31 : Keep h0 T22.heap [] := kc14.trans K22 all0
    have pre32 : own_Go p e below S0 (T22.setTop (mkF m 32 #[.val (.ref a1), .val (.int 0), .val (.int 2), .val (.ref b2), .val (.int 0), .val (.ref b23)] [(.int 0), (.ref b23)])) := by
      intro t kt
      refine pre19 t ?_
      refine st22 _ ?_
      show Steps p.tables e below (T22.setTop (mkF m 26 #[.val (.ref a1), .val (.int 0), .val (.int 2), .val (.ref b2), .val (.int 0), .unset] [(.ref b23)])) _
      refine XS.astore X22.here hx rfl (hb hby d7_26) rfl rfl (l' := #[.val (.ref a1), .val (.int 0), .val (.int 2), .val (.ref b2), .val (.int 0), .val (.ref b23)]) rfl ?_
      refine XS.aload X22.here hx rfl (hb hby d7_28) rfl rfl ?_
      refine XS.iload X22.here hx rfl (hb hby d7_30) rfl ?_
      exact kt
    have f33 : Old Z n0 T22.heap := (f20.keep K22 all0)
    obtain ⟨_, _, ⟨T34, L34, k34, n34⟩, -, X34, ⟨Lc34, hQ34, l34, y34, z34⟩, st34⟩ := Jvm.LawKit.callS X22 hx (y := own_m16) hown (mvT hZ (hw _ (own_w 93 rfl))) (mvT hZ (hw _ (own_w 94 rfl))) (mvT hZ (hw _ (own_w 40 rfl))) (mvT hZ (hw _ (own_w 95 rfl))) (by decide) (backOf (W := 0) (rmgetc l Z a0 hw [] b23 (0 : Int32) kb24 (4 : Int32) [(.int (nar .byte ((c0 >>> ((0 : Int32) &&& 31)).toInt8.toInt32))), (.int (nar .byte ((c0 >>> ((8 : Int32) &&& 31)).toInt8.toInt32))), (.int (nar .byte ((c1 >>> ((0 : Int32) &&& 31)).toInt8.toInt32))), (.int (nar .byte ((c1 >>> ((8 : Int32) &&& 31)).toInt8.toInt32)))] (.int 0) (nar .byte ((c0 >>> ((0 : Int32) &&& 31)).toInt8.toInt32)) (nar .byte ((c0 >>> ((8 : Int32) &&& 31)).toInt8.toInt32)) 0 1 T22.heap n0 zs30 f33 qU g26 (by decide +kernel) (by decide +kernel) (by decide +kernel) rfl (by decide +kernel) (by decide +kernel) (by decide +kernel) rfl) hZ (hw _ (own_w 95 rfl)) (hw _ (own_w 40 rfl)) (by decide) (by decide)) (g := (mkF m 32 #[.val (.ref a1), .val (.int 0), .val (.int 2), .val (.ref b2), .val (.int 0), .val (.ref b23)] [(.int 0), (.ref b23)])) rfl (by rw [hml]; rfl) (argsL := [(.ref b23), (.int 0)]) (rest := []) (lenOf pd_7 rfl) rfl (by show 2 * 0 + _ ≤ _; exact Nat.le_of_eq rfl) (hb hby d7_32) (fun _ _ => ⟨rfl, rfl, (by decide : 2 + 0 ≤ _), (by decide : 6 + 0 ≤ _)⟩)
    dsimp only [Pt.U, Pt.locs, Pt.cells, Pt.slots] at X34 l34 y34 z34 st34 hQ34
    subst l34 y34 z34
    obtain ⟨rfl, Nq34, eq34⟩ := hQ34
    have N34 := Fr.app N22 Nq34
    have pre35 : own_Go p e below S0 (T34.setTop (mkF m 35 #[.val (.ref a1), .val (.int 0), .val (.int 2), .val (.ref b2), .val (.int 0), .val (.ref b23)] [(.int (own_gc (nar .byte ((c0 >>> ((0 : Int32) &&& 31)).toInt8.toInt32)) (nar .byte ((c0 >>> ((8 : Int32) &&& 31)).toInt8.toInt32))))])) := by
      intro t kt
      refine pre32 t ?_
      refine st34 _ ?_
      show Steps p.tables e below (T34.setTop (mkF m 35 #[.val (.ref a1), .val (.int 0), .val (.int 2), .val (.ref b2), .val (.int 0), .val (.ref b23)] [(.int (own_gc (nar .byte ((c0 >>> ((0 : Int32) &&& 31)).toInt8.toInt32)) (nar .byte ((c0 >>> ((8 : Int32) &&& 31)).toInt8.toInt32))))])) _
      exact kt
    have pre36 : own_Go p e below S0 (T34.setTop (mkF m 35 #[.val (.ref a1), .val (.int 0), .val (.int 2), .val (.ref b2), .val (.int 0), .val (.ref b23)] [(.int c0)])) := by
      intro t kt
      refine pre35 t ?_
      rw [own_utfget c0 (own_fitAt VC 0 (by decide) rfl)]
      exact kt
    have pre37 : own_Go p e below S0 (T34.setTop (mkF m 56 #[.val (.ref a1), .val (.int 0), .val (.int 2), .val (.ref b2), .val (.int 0), .val (.ref b23)] [(.ref b23)])) := by
      intro t kt
      refine pre36 t ?_
      refine XS.sipush X34.here hx rfl (hb hby d7_35) ?_
      refine XS.icmpYes X34.here hx rfl (pc0 := 38) (pc' := 54) rfl (hb hby d7_38) rfl (tlt hg).2.2.1 (by decide) (by decide) ?_
      refine XS.aload X34.here hx rfl (hb hby d7_54) rfl rfl ?_
      exact kt
    obtain ⟨fs, hr, hrun, hended, hW, hsame⟩ := X34.leave (v := some (.ref b23)) (fun h => by rw [Bd.returns] at h; cases h)
    refine ⟨_, _, fin _ (pre37 _ ?_), hrun, hended, _, _, rfl, ?_, ⟨_, rfl⟩, hW, hsame.mono (by decide) (by decide)⟩
    · jvm_step X34.here [X34.here.top, hx, (hb hby d7_56), X34.method', Bd.returns, Value.isRef, FieldType.isReference]
      first | (intro acts; rw [hr _ acts rfl rfl rfl]) | rw [hr _ _ rfl rfl rfl]
      exact Steps.refl _
    · show Qcmp3_2 Z a1 kc c0 c1 h0 n0 _ T34.heap _
      rw [eq34]
      exact ⟨b23, kb24, rfl, N34, kc31, sz29, (Or.inr ⟨⟨own_fitAt VC 0 (by decide) rfl, ⟨own_fitAt VC 1 (by decide) rfl, trivial⟩⟩, g26⟩)⟩
  · have pre38 : own_Go p e below S0 (T10.setTop (mkF m 12 #[.val (.ref a1), .val (.int 0), .val (.int 2), .val (.ref b2), .unset, .unset] [(.int 1)])) := by
      intro t kt
      refine pre15 t ?_
      rw [hr]
      exact kt
    have pre39 : own_Go p e below S0 (T10.setTop (mkF m 23 #[.val (.ref a1), .val (.int 0), .val (.int 2), .val (.ref b2), .val (.int 1), .unset] [(.int 2), (.int 0), (.ref a1)])) := by
      intro t kt
      refine pre38 t ?_
      refine XS.istore X10.here hx rfl (hb hby d7_12) rfl (l' := #[.val (.ref a1), .val (.int 0), .val (.int 2), .val (.ref b2), .val (.int 1), .unset]) rfl ?_
      refine XS.iload X10.here hx rfl (hb hby d7_14) rfl ?_
      refine XS.iloadN X10.here hx rfl (hb hby d7_16) rfl ?_
      refine XS.icmpNo X10.here hx rfl (hb hby d7_17) rfl (feq (by decide : ¬ ((1 : Int32) = (2 : Int32)))).1 ?_
      refine XS.aloadN X10.here hx rfl (hb hby d7_20) rfl rfl ?_
      refine XS.iloadN X10.here hx rfl (hb hby d7_21) rfl ?_
      show Steps p.tables e below (T10.setTop (mkF m 22 #[.val (.ref a1), .val (.int 0), .val (.int 2), .val (.ref b2), .val (.int 1), .unset] [(.int 0), (.ref a1)])) _
      refine XS.iloadN X10.here hx rfl (hb hby d7_22) rfl ?_
      exact kt
    have f40 : Old Z n0 T10.heap := ((O0.ext E2).keep K10 (allS ge4 all0))
    have f41 : Arv Z T10.heap a1 kc .char (2 : Int32) [(.int c0), (.int c1)] (.int 0) := (f9.keep K10 (ninS ne3 nin0))
    obtain ⟨_, _, ⟨T42, L42, k42, n42⟩, -, X42, ⟨Lc42, hQ42, l42, y42, z42⟩, st42⟩ := Jvm.LawKit.callS X10 hx (y := own_m21) hown (mvT hZ (hw _ (own_w 77 rfl))) (mvT hZ (hw _ (own_w 78 rfl))) (mvT hZ (hw _ (own_w 40 rfl))) (mvT hZ (hw _ (own_w 79 rfl))) (by decide) (backOf (W := 0) (rmtoB_2 l Z a0 hw [] a1 kc c0 c1 T10.heap n0 zs13 f40 qU f41) hZ (hw _ (own_w 79 rfl)) (hw _ (own_w 40 rfl)) (by decide) (by decide)) (g := (mkF m 23 #[.val (.ref a1), .val (.int 0), .val (.int 2), .val (.ref b2), .val (.int 1), .unset] [(.int 2), (.int 0), (.ref a1)])) rfl (by rw [hml]; rfl) (argsL := [(.ref a1), (.int 0), (.int 2)]) (rest := []) (lenOf pd_6 rfl) rfl (by show 2 * 0 + _ ≤ _; exact Nat.le_of_eq rfl) (hb hby d7_23) (fun _ _ => ⟨rfl, rfl, (by decide : 1 + 1 ≤ _), (by decide : 2 + 4 ≤ _)⟩)
    dsimp only [Pt.U, Pt.locs, Pt.cells, Pt.slots] at X42 l42 y42 z42 st42 hQ42
    subst l42 y42 z42
    obtain ⟨b43, kb44, rfl, Nq42, K42, g45, g46⟩ := hQ42
    have N42 := Fr.app N10 Nq42
    have ne47 : a1 ≠ b43 := Nat.ne_of_lt (Nat.lt_of_lt_of_le f41.lt g45)
    have ge48 : n0 ≤ b43 := Nat.le_trans zs13 g45
    have sz49 : h0.size ≤ b43 := Nat.le_trans kc14.1 g45
    have zs50 : n0 ≤ T42.heap.size := Nat.le_trans zs13 K42.1
    have kc51 : Keep h0 T42.heap [] := kc14.trans K42 all0
    have pre52 : own_Go p e below S0 (T42.setTop (mkF m 32 #[.val (.ref a1), .val (.int 0), .val (.int 2), .val (.ref b2), .val (.int 1), .val (.ref b43)] [(.int 1), (.ref b43)])) := by
      intro t kt
      refine pre39 t ?_
      refine st42 _ ?_
      show Steps p.tables e below (T42.setTop (mkF m 26 #[.val (.ref a1), .val (.int 0), .val (.int 2), .val (.ref b2), .val (.int 1), .unset] [(.ref b43)])) _
      refine XS.astore X42.here hx rfl (hb hby d7_26) rfl rfl (l' := #[.val (.ref a1), .val (.int 0), .val (.int 2), .val (.ref b2), .val (.int 1), .val (.ref b43)]) rfl ?_
      refine XS.aload X42.here hx rfl (hb hby d7_28) rfl rfl ?_
      refine XS.iload X42.here hx rfl (hb hby d7_30) rfl ?_
      exact kt
    have f53 : Old Z n0 T42.heap := (f40.keep K42 all0)
    obtain ⟨_, _, ⟨T54, L54, k54, n54⟩, -, X54, ⟨Lc54, hQ54, l54, y54, z54⟩, st54⟩ := Jvm.LawKit.callS X42 hx (y := own_m16) hown (mvT hZ (hw _ (own_w 93 rfl))) (mvT hZ (hw _ (own_w 94 rfl))) (mvT hZ (hw _ (own_w 40 rfl))) (mvT hZ (hw _ (own_w 95 rfl))) (by decide) (backOf (W := 0) (rmgetc l Z a0 hw [] b43 (1 : Int32) kb44 (4 : Int32) [(.int (nar .byte ((c0 >>> ((0 : Int32) &&& 31)).toInt8.toInt32))), (.int (nar .byte ((c0 >>> ((8 : Int32) &&& 31)).toInt8.toInt32))), (.int (nar .byte ((c1 >>> ((0 : Int32) &&& 31)).toInt8.toInt32))), (.int (nar .byte ((c1 >>> ((8 : Int32) &&& 31)).toInt8.toInt32)))] (.int 0) (nar .byte ((c1 >>> ((0 : Int32) &&& 31)).toInt8.toInt32)) (nar .byte ((c1 >>> ((8 : Int32) &&& 31)).toInt8.toInt32)) 2 3 T42.heap n0 zs50 f53 qU g46 (by decide +kernel) (by decide +kernel) (by decide +kernel) rfl (by decide +kernel) (by decide +kernel) (by decide +kernel) rfl) hZ (hw _ (own_w 95 rfl)) (hw _ (own_w 40 rfl)) (by decide) (by decide)) (g := (mkF m 32 #[.val (.ref a1), .val (.int 0), .val (.int 2), .val (.ref b2), .val (.int 1), .val (.ref b43)] [(.int 1), (.ref b43)])) rfl (by rw [hml]; rfl) (argsL := [(.ref b43), (.int 1)]) (rest := []) (lenOf pd_7 rfl) rfl (by show 2 * 0 + _ ≤ _; exact Nat.le_of_eq rfl) (hb hby d7_32) (fun _ _ => ⟨rfl, rfl, (by decide : 2 + 0 ≤ _), (by decide : 6 + 0 ≤ _)⟩)
    dsimp only [Pt.U, Pt.locs, Pt.cells, Pt.slots] at X54 l54 y54 z54 st54 hQ54
    subst l54 y54 z54
    obtain ⟨rfl, Nq54, eq54⟩ := hQ54
    have N54 := Fr.app N42 Nq54
    have pre55 : own_Go p e below S0 (T54.setTop (mkF m 35 #[.val (.ref a1), .val (.int 0), .val (.int 2), .val (.ref b2), .val (.int 1), .val (.ref b43)] [(.int (own_gc (nar .byte ((c1 >>> ((0 : Int32) &&& 31)).toInt8.toInt32)) (nar .byte ((c1 >>> ((8 : Int32) &&& 31)).toInt8.toInt32))))])) := by
      intro t kt
      refine pre52 t ?_
      refine st54 _ ?_
      show Steps p.tables e below (T54.setTop (mkF m 35 #[.val (.ref a1), .val (.int 0), .val (.int 2), .val (.ref b2), .val (.int 1), .val (.ref b43)] [(.int (own_gc (nar .byte ((c1 >>> ((0 : Int32) &&& 31)).toInt8.toInt32)) (nar .byte ((c1 >>> ((8 : Int32) &&& 31)).toInt8.toInt32))))])) _
      exact kt
    have pre56 : own_Go p e below S0 (T54.setTop (mkF m 35 #[.val (.ref a1), .val (.int 0), .val (.int 2), .val (.ref b2), .val (.int 1), .val (.ref b43)] [(.int c1)])) := by
      intro t kt
      refine pre55 t ?_
      rw [own_utfget c1 (own_fitAt VC 1 (by decide) rfl)]
      exact kt
    have pre57 : own_Go p e below S0 (T54.setTop (mkF m 56 #[.val (.ref a1), .val (.int 0), .val (.int 2), .val (.ref b2), .val (.int 1), .val (.ref b43)] [(.ref b43)])) := by
      intro t kt
      refine pre56 t ?_
      refine XS.sipush X54.here hx rfl (hb hby d7_35) ?_
      refine XS.icmpYes X54.here hx rfl (pc0 := 38) (pc' := 54) rfl (hb hby d7_38) rfl (tlt hg).2.2.1 (by decide) (by decide) ?_
      refine XS.aload X54.here hx rfl (hb hby d7_54) rfl rfl ?_
      exact kt
    obtain ⟨fs, hr, hrun, hended, hW, hsame⟩ := X54.leave (v := some (.ref b43)) (fun h => by rw [Bd.returns] at h; cases h)
    refine ⟨_, _, fin _ (pre57 _ ?_), hrun, hended, _, _, rfl, ?_, ⟨_, rfl⟩, hW, hsame.mono (by decide) (by decide)⟩
    · jvm_step X54.here [X54.here.top, hx, (hb hby d7_56), X54.method', Bd.returns, Value.isRef, FieldType.isReference]
      first | (intro acts; rw [hr _ acts rfl rfl rfl]) | rw [hr _ _ rfl rfl rfl]
      exact Steps.refl _
    · show Qcmp3_2 Z a1 kc c0 c1 h0 n0 _ T54.heap _
      rw [eq54]
      exact ⟨b43, kb44, rfl, N54, kc51, sz49, (Or.inr ⟨⟨own_fitAt VC 0 (by decide) rfl, ⟨own_fitAt VC 1 (by decide) rfl, trivial⟩⟩, g46⟩)⟩

theorem ef_init4_2 (m : MethodId) (x0 : Addr) (x1 : Addr) : entryFrame m #[(.ref x0), (.ref x1), (.int 0), (.int 2), .null] 6 = mkF m 0 #[.val (.ref x0), .val (.ref x1), .val (.int 0), .val (.int 2), .val .null, .unset] [] := by first | (simp [entryFrame, mkF, argsToLocals, Value.category]; done) | rfl
def Qinit4_2 (Z : State) (a1 : Addr) (a2 : Addr) (kc : ClassId) (c0 : Int32) (c1 : Int32) (wC : Int32) (h0 : Heap) (n0 : Nat) (v : Option Value) (h : Heap) (L : List Loc) : Prop := ∃ vb : Addr, ∃ kb : ClassId, v = none ∧ Fr n0 L ∧ Keep h0 h [a1] ∧ h0.size ≤ vb ∧ own_Str Z h a1 vb kb [c0, c1]
set_option maxRecDepth 65536 in
set_option maxHeartbeats 40000000 in
theorem rminit4_2 (l : Launch) (Z : State) (a0 : Array Value) (hw : ∀ d ∈ tables_1, d.before a0 Z = true) (ws : List Jvm.Cond) (a1 : Addr) (a2 : Addr) (kc : ClassId) (c0 : Int32) (c1 : Int32) (wC : Int32) (h0 : Heap) (n0 : Nat) (Z0 : n0 ≤ h0.size) (O0 : Old Z n0 h0) (qC : (own_SC Z wC)) (qU : (own_SU Z)) (E1 : Exa Z h0 a1 "java/lang/String") (F1 : Fld Z h0 a1 "java/lang/String" "value" "[B" .null) (F2 : Fld Z h0 a1 "java/lang/String" "coder" "B" (.int 0)) (g1 : n0 ≤ a1) (VC : Arv Z h0 a2 kc .char (2 : Int32) [(.int c0), (.int c1)] (.int 0)) :
    MetFree l own_m4 (head1 (Jvm.Cond.code own_m4 jdk_42_method_149_code 6 none :: ws) (own_r 4 2 6 57)) (fun a U => a = #[(.ref a1), (.ref a2), (.int 0), (.int 2), .null] ∧ Z.Warmed39 U.vm ∧ U.heap = h0) (fun _ _ _ _ _ => True) (fun _ U o U' => ∃ v L, o = .returned v ∧ Qinit4_2 Z a1 a2 kc c0 c1 wC h0 n0 v U'.heap L ∧ FrameEnd U o U' L (own_r 4 2 6 57).cells (own_r 4 2 6 57).slots) := by
  refine MetFree.of_bodySF (plainFor_of_name pn_2) hisR ?_
  intro p e s m args below meth c s₁ Bd hml0 hP hK
  obtain ⟨rfl, hZ, hh⟩ := hP
  have hx := Bd.exec
  have hby := Bd.bytes
  have hml : c.maxLocals = 6 := hml0
  have hown0 := findClass_of_methodNamed Bd.named
  have hown : s.vm.findClass "java/lang/String" = some m.cls := hown0
  have hnm := (name_of_methodNamed Bd.named Bd.method).1
  have X0 : Stand p l e (own_r 4 2 6 57) s m #[(.ref a1), (.ref a2), (.int 0), (.int 2), .null] below meth c s₁ [] 0 0 := Stand.of_body Bd
  have e0 : s₁.heap = h0 := by rw [← hh, Bd.state]; rfl
  have N0 := Fr.nil n0
  obtain ⟨S0, hS0⟩ : ∃ z, z = s₁.setTop (entryFrame m #[(.ref a1), (.ref a2), (.int 0), (.int 2), .null] 6) := ⟨_, rfl⟩
  have pre0 : own_Go p e below S0 (s₁.setTop (mkF m 0 #[.val (.ref a1), .val (.ref a2), .val (.int 0), .val (.int 2), .val .null, .unset] [])) := fun t k => by rw [hS0]; exact castTop (ef_init4_2 m a1 a2) k
  have fin : ∀ t, Steps p.tables e below S0 t → Steps p.tables e below (s₁.setTop (entryFrame m #[(.ref a1), (.ref a2), (.int 0), (.int 2), .null] 6)) t := fun t k => by rw [hS0] at k; exact k
  have kc0 : Keep h0 h0 [a1] := Keep.refl _ _
  have pre1 : own_Go p e below S0 (s₁.setTop (mkF m 1 #[.val (.ref a1), .val (.ref a2), .val (.int 0), .val (.int 2), .val .null, .unset] [(.ref a1)])) := by
    intro t kt
    refine pre0 t ?_
    refine XS.aloadN X0.here hx rfl (hb hby d2_0) rfl rfl ?_
    exact kt
  obtain ⟨T2, X2, e2, st2⟩ := initO X0 hx hZ hown (hw _ (own_w 12 rfl)) (hw _ (own_w 13 rfl)) (hw _ (own_w 14 rfl)) e0 (g := (mkF m 1 #[.val (.ref a1), .val (.ref a2), .val (.int 0), .val (.int 2), .val .null, .unset] [(.ref a1)])) rfl (by rw [hml]; rfl) rfl (hb hby d2_1) (by decide) (W := 0) (by show 2 * 0 + _ ≤ _; exact Nat.le_of_eq rfl) (by decide)
  have pre3 : own_Go p e below S0 (T2.setTop (mkF m 27 #[.val (.ref a1), .val (.ref a2), .val (.int 0), .val (.int 2), .val .null, .unset] [])) := by
    intro t kt
    refine pre1 t ?_
    refine st2 _ ?_
    refine XS.iloadN X2.here hx rfl (hb hby d2_4) rfl ?_
    refine XS.ifYes X2.here hx rfl (pc0 := 5) (pc' := 27) rfl (hb hby d2_5) rfl ((if0 _ _).trans (feq (by decide : ¬ ((2 : Int32) = (0 : Int32)))).2) (by decide) (by decide) ?_
    exact kt
  obtain ⟨T4, X4, e4, st4⟩ := getS2 X2 hx hZ hown (host := "") (Or.inl (hw _ (own_w 37 rfl))) Via.refl e2 (qC.1.ext O0.2) (g := (mkF m 27 #[.val (.ref a1), .val (.ref a2), .val (.int 0), .val (.int 2), .val .null, .unset] [])) rfl (hb hby d2_27)
  have pre5 : own_Go p e below S0 (T4.setTop (mkF m 36 #[.val (.ref a1), .val (.ref a2), .val (.int 0), .val (.int 2), .val .null, .unset] [(.int 2), (.int 0), (.ref a2)])) := by
    intro t kt
    refine pre3 t ?_
    refine st4 _ ?_
    refine XS.ifNo X4.here hx rfl (hb hby d2_30) rfl ((if0 _ _).trans (feq qC.2).1) ?_
    refine XS.aloadN X4.here hx rfl (hb hby d2_33) rfl rfl ?_
    refine XS.iloadN X4.here hx rfl (hb hby d2_34) rfl ?_
    refine XS.iloadN X4.here hx rfl (hb hby d2_35) rfl ?_
    exact kt
  obtain ⟨_, _, ⟨T6, L6, k6, n6⟩, -, X6, ⟨Lc6, hQ6, l6, y6, z6⟩, st6⟩ := Jvm.LawKit.callS X4 hx (y := own_m14) hown (mvT hZ (hw _ (own_w 38 rfl))) (mvT hZ (hw _ (own_w 39 rfl))) (mvT hZ (hw _ (own_w 40 rfl))) (mvT hZ (hw _ (own_w 41 rfl))) (by decide) (backOf (W := 0) (rmcmp3_2 l Z a0 hw [] a2 kc c0 c1 h0 n0 Z0 O0 qU VC) hZ (hw _ (own_w 41 rfl)) (hw _ (own_w 40 rfl)) (by decide) (by decide)) (g := (mkF m 36 #[.val (.ref a1), .val (.ref a2), .val (.int 0), .val (.int 2), .val .null, .unset] [(.int 2), (.int 0), (.ref a2)])) rfl (by rw [hml]; rfl) (argsL := [(.ref a2), (.int 0), (.int 2)]) (rest := []) (lenOf pd_6 rfl) rfl (by show 2 * 0 + _ ≤ _; exact Nat.le_of_eq rfl) (hb hby d2_36) (fun _ _ => ⟨rfl, e4, (by decide : 0 + 2 ≤ _), (by decide : 0 + 6 ≤ _)⟩)
  dsimp only [Pt.U, Pt.locs, Pt.cells, Pt.slots] at X6 l6 y6 z6 st6 hQ6
  subst l6 y6 z6
  obtain ⟨b7, kb8, rfl, Nq6, K6, g9, g10⟩ := hQ6
  have N6 := Fr.app N0 Nq6
  have ne11 : a1 ≠ b7 := Nat.ne_of_lt (Nat.lt_of_lt_of_le E1.lt g9)
  have ne12 : a2 ≠ b7 := Nat.ne_of_lt (Nat.lt_of_lt_of_le VC.lt g9)
  have ge13 : n0 ≤ b7 := Nat.le_trans Z0 g9
  have sz14 : h0.size ≤ b7 := Nat.le_trans kc0.1 g9
  have zs15 : n0 ≤ T6.heap.size := Nat.le_trans Z0 K6.1
  have kc16 : Keep h0 T6.heap [a1] := kc0.trans K6 all0
  have pre17 : own_Go p e below S0 (T6.setTop (mkF m 39 #[.val (.ref a1), .val (.ref a2), .val (.int 0), .val (.int 2), .val .null, .unset] [(.ref b7)])) := by
    intro t kt
    refine pre5 t ?_
    refine st6 _ ?_
    show Steps p.tables e below (T6.setTop (mkF m 39 #[.val (.ref a1), .val (.ref a2), .val (.int 0), .val (.int 2), .val .null, .unset] [(.ref b7)])) _
    exact kt
  obtain ⟨hl, hv⟩ | ⟨hl, hv⟩ := g10
  · have pre18 : own_Go p e below S0 (T6.setTop (mkF m 45 #[.val (.ref a1), .val (.ref a2), .val (.int 0), .val (.int 2), .val .null, .val (.ref b7)] [(.int 2), (.ref b7), (.ref a1)])) := by
      intro t kt
      refine pre17 t ?_
      refine XS.astore X6.here hx rfl (hb hby d2_39) rfl rfl (l' := #[.val (.ref a1), .val (.ref a2), .val (.int 0), .val (.int 2), .val .null, .val (.ref b7)]) rfl ?_
      refine XS.aloadN X6.here hx rfl (hb hby d2_41) rfl rfl ?_
      refine XS.aload X6.here hx rfl (hb hby d2_42) rfl rfl ?_
      refine XS.iloadN X6.here hx rfl (hb hby d2_44) rfl ?_
      exact kt
    obtain ⟨_, _, ⟨T19, L19, k19, n19⟩, -, X19, ⟨Lc19, hQ19, l19, y19, z19⟩, st19⟩ := Jvm.LawKit.callS X6 hx (y := own_m13) hown (mvT hZ (hw _ (own_w 45 rfl))) (mvT hZ (hw _ (own_w 46 rfl))) (mvT hZ (hw _ (own_w 40 rfl))) (mvT hZ (hw _ (own_w 47 rfl))) (by decide) (backOf (W := 1) (rmcofa l Z a0 hw [] b7 (2 : Int32) kb8 (2 : Int32) [(.int (nar .byte (c0.toInt8.toInt32))), (.int (nar .byte (c1.toInt8.toInt32)))] (.int 0) T6.heap n0 zs15 hv) hZ (hw _ (own_w 47 rfl)) (hw _ (own_w 40 rfl)) (by decide) (by decide)) (g := (mkF m 45 #[.val (.ref a1), .val (.ref a2), .val (.int 0), .val (.int 2), .val .null, .val (.ref b7)] [(.int 2), (.ref b7), (.ref a1)])) rfl (by rw [hml]; rfl) (argsL := [(.ref b7), (.int 2)]) (rest := [(.ref a1)]) (lenOf pd_8 rfl) rfl (by show 2 * 0 + _ ≤ _; exact Nat.le_of_eq rfl) (hb hby d2_45) (fun _ _ => ⟨rfl, rfl, (by decide : 2 + 0 ≤ _), (by decide : 6 + 0 ≤ _)⟩)
    dsimp only [Pt.U, Pt.locs, Pt.cells, Pt.slots] at X19 l19 y19 z19 st19 hQ19
    subst l19 y19 z19
    obtain ⟨rfl, Nq19, eq19⟩ := hQ19
    have N19 := Fr.app N6 Nq19
    have pre20 : own_Go p e below S0 (T19.setTop (mkF m 48 #[.val (.ref a1), .val (.ref a2), .val (.int 0), .val (.int 2), .val .null, .val (.ref b7)] [(.int (own_cofa (2 : Int32) (2 : Int32))), (.ref a1)])) := by
      intro t kt
      refine pre18 t ?_
      refine st19 _ ?_
      show Steps p.tables e below (T19.setTop (mkF m 48 #[.val (.ref a1), .val (.ref a2), .val (.int 0), .val (.int 2), .val .null, .val (.ref b7)] [(.int (own_cofa (2 : Int32) (2 : Int32))), (.ref a1)])) _
      exact kt
    have pre21 : own_Go p e below S0 (T19.setTop (mkF m 48 #[.val (.ref a1), .val (.ref a2), .val (.int 0), .val (.int 2), .val .null, .val (.ref b7)] [(.int 0), (.ref a1)])) := by
      intro t kt
      refine pre20 t ?_
      rw [(by decide : (own_cofa (2 : Int32) (2 : Int32)) = (0 : Int32))]
      exact kt
    have f22 : Fld Z T6.heap a1 "java/lang/String" "coder" "B" (.int 0) := (F2.keep K6 nin0)
    have f23 : Exa Z T6.heap a1 "java/lang/String" := (E1.keep K6)
    obtain ⟨T24, h24, X24, e24, W24, st24⟩ := putFN X19 hx hZ hown (hw _ (own_w 22 rfl)) Via.refl eq19 f22 f23 (Or.inr ⟨(hw _ (own_w 18 rfl)), rfl, hnm⟩) (hw _ (own_w 3 rfl)) (ty := .byte) (v' := (.int 0)) (by decide) rfl (by decide) (g := (mkF m 48 #[.val (.ref a1), .val (.ref a2), .val (.int 0), .val (.int 2), .val .null, .val (.ref b7)] [(.int 0), (.ref a1)])) rfl rfl (hb hby d2_48)
    have N24 := Fr.snoc X24 N19 g1
    have zs25 : n0 ≤ h24.size := Nat.le_trans zs15 (Keep.of_wr W24).1
    have kc26 : Keep h0 h24 [a1] := kc16.wr W24 (Or.inl (List.mem_of_getElem? (i := 0) rfl))
    have fw24 : Fld Z h24 a1 "java/lang/String" "coder" "B" (.int 0) := f22.same W24
    have pre27 : own_Go p e below S0 (T24.setTop (mkF m 54 #[.val (.ref a1), .val (.ref a2), .val (.int 0), .val (.int 2), .val .null, .val (.ref b7)] [(.ref b7), (.ref a1)])) := by
      intro t kt
      refine pre21 t ?_
      refine st24 _ ?_
      refine XS.aloadN X24.here hx rfl (hb hby d2_51) rfl rfl ?_
      refine XS.aload X24.here hx rfl (hb hby d2_52) rfl rfl ?_
      exact kt
    have f28 : Fld Z h24 a1 "java/lang/String" "value" "[B" .null := ((F1.keep K6 nin0).other W24 (Or.inr (slot_ne (Or.inr (hw _ (own_w 17 rfl))) (Or.inr (hw _ (own_w 18 rfl))) (by decide) (t := (.array .byte)) (t' := .byte) (by decide) (by decide))))
    have f29 : Exa Z h24 a1 "java/lang/String" := (f23.wr W24)
    obtain ⟨T30, h30, X30, e30, W30, st30⟩ := putF X24 hx hZ hown (host := "") (Or.inl (hw _ (own_w 21 rfl))) Via.refl e24 f28 f29 (Or.inr ⟨(hw _ (own_w 17 rfl)), rfl, hnm⟩) (hw _ (own_w 3 rfl)) (ty := (.array .byte)) (by decide) rfl rfl (g := (mkF m 54 #[.val (.ref a1), .val (.ref a2), .val (.int 0), .val (.int 2), .val .null, .val (.ref b7)] [(.ref b7), (.ref a1)])) rfl rfl (hb hby d2_54)
    have N30 := Fr.snoc X30 N24 g1
    have zs31 : n0 ≤ h30.size := Nat.le_trans zs25 (Keep.of_wr W30).1
    have kc32 : Keep h0 h30 [a1] := kc26.wr W30 (Or.inl (List.mem_of_getElem? (i := 0) rfl))
    have fw30 : Fld Z h30 a1 "java/lang/String" "value" "[B" (.ref b7) := f28.same W30
    have pre33 : own_Go p e below S0 (T30.setTop (mkF m 57 #[.val (.ref a1), .val (.ref a2), .val (.int 0), .val (.int 2), .val .null, .val (.ref b7)] [])) := by
      intro t kt
      refine pre27 t ?_
      refine st30 _ ?_
      exact kt
    have f34 : Exa Z h30 a1 "java/lang/String" := (f29.wr W30)
    have f35 : Fld Z h30 a1 "java/lang/String" "coder" "B" (.int 0) := (fw24.other W30 (Or.inr (slot_ne (Or.inr (hw _ (own_w 18 rfl))) (Or.inr (hw _ (own_w 17 rfl))) (by decide) (t := .byte) (t' := (.array .byte)) (by decide) (by decide))))
    have f36 : Arv Z h30 b7 kb8 .byte (2 : Int32) [(.int (nar .byte (c0.toInt8.toInt32))), (.int (nar .byte (c1.toInt8.toInt32)))] (.int 0) := ((hv.other W24 (Ne.symm ne11)).other W30 (Ne.symm ne11))
    obtain ⟨fs, hr, hrun, hended, hW, hsame⟩ := X30.leave (v := none) (fun _ => rfl)
    refine ⟨_, _, fin _ (pre33 _ ?_), hrun, hended, _, _, rfl, ?_, ⟨_, rfl⟩, hW, hsame.mono (by decide) (by decide)⟩
    · exact X30.returnOut hx Bd.returns (hb hby d2_57) hr
    · show Qinit4_2 Z a1 a2 kc c0 c1 wC h0 n0 _ T30.heap _
      rw [e30]
      exact ⟨b7, kb8, rfl, N30, kc32, sz14, ⟨f34, fw30, Or.inl ⟨f35, hl, f36⟩⟩⟩
  · have pre37 : own_Go p e below S0 (T6.setTop (mkF m 45 #[.val (.ref a1), .val (.ref a2), .val (.int 0), .val (.int 2), .val .null, .val (.ref b7)] [(.int 2), (.ref b7), (.ref a1)])) := by
      intro t kt
      refine pre17 t ?_
      refine XS.astore X6.here hx rfl (hb hby d2_39) rfl rfl (l' := #[.val (.ref a1), .val (.ref a2), .val (.int 0), .val (.int 2), .val .null, .val (.ref b7)]) rfl ?_
      refine XS.aloadN X6.here hx rfl (hb hby d2_41) rfl rfl ?_
      refine XS.aload X6.here hx rfl (hb hby d2_42) rfl rfl ?_
      refine XS.iloadN X6.here hx rfl (hb hby d2_44) rfl ?_
      exact kt
    obtain ⟨_, _, ⟨T38, L38, k38, n38⟩, -, X38, ⟨Lc38, hQ38, l38, y38, z38⟩, st38⟩ := Jvm.LawKit.callS X6 hx (y := own_m13) hown (mvT hZ (hw _ (own_w 45 rfl))) (mvT hZ (hw _ (own_w 46 rfl))) (mvT hZ (hw _ (own_w 40 rfl))) (mvT hZ (hw _ (own_w 47 rfl))) (by decide) (backOf (W := 1) (rmcofa l Z a0 hw [] b7 (2 : Int32) kb8 (4 : Int32) [(.int (nar .byte ((c0 >>> ((0 : Int32) &&& 31)).toInt8.toInt32))), (.int (nar .byte ((c0 >>> ((8 : Int32) &&& 31)).toInt8.toInt32))), (.int (nar .byte ((c1 >>> ((0 : Int32) &&& 31)).toInt8.toInt32))), (.int (nar .byte ((c1 >>> ((8 : Int32) &&& 31)).toInt8.toInt32)))] (.int 0) T6.heap n0 zs15 hv) hZ (hw _ (own_w 47 rfl)) (hw _ (own_w 40 rfl)) (by decide) (by decide)) (g := (mkF m 45 #[.val (.ref a1), .val (.ref a2), .val (.int 0), .val (.int 2), .val .null, .val (.ref b7)] [(.int 2), (.ref b7), (.ref a1)])) rfl (by rw [hml]; rfl) (argsL := [(.ref b7), (.int 2)]) (rest := [(.ref a1)]) (lenOf pd_8 rfl) rfl (by show 2 * 0 + _ ≤ _; exact Nat.le_of_eq rfl) (hb hby d2_45) (fun _ _ => ⟨rfl, rfl, (by decide : 2 + 0 ≤ _), (by decide : 6 + 0 ≤ _)⟩)
    dsimp only [Pt.U, Pt.locs, Pt.cells, Pt.slots] at X38 l38 y38 z38 st38 hQ38
    subst l38 y38 z38
    obtain ⟨rfl, Nq38, eq38⟩ := hQ38
    have N38 := Fr.app N6 Nq38
    have pre39 : own_Go p e below S0 (T38.setTop (mkF m 48 #[.val (.ref a1), .val (.ref a2), .val (.int 0), .val (.int 2), .val .null, .val (.ref b7)] [(.int (own_cofa (2 : Int32) (4 : Int32))), (.ref a1)])) := by
      intro t kt
      refine pre37 t ?_
      refine st38 _ ?_
      show Steps p.tables e below (T38.setTop (mkF m 48 #[.val (.ref a1), .val (.ref a2), .val (.int 0), .val (.int 2), .val .null, .val (.ref b7)] [(.int (own_cofa (2 : Int32) (4 : Int32))), (.ref a1)])) _
      exact kt
    have pre40 : own_Go p e below S0 (T38.setTop (mkF m 48 #[.val (.ref a1), .val (.ref a2), .val (.int 0), .val (.int 2), .val .null, .val (.ref b7)] [(.int 1), (.ref a1)])) := by
      intro t kt
      refine pre39 t ?_
      rw [(by decide : (own_cofa (2 : Int32) (4 : Int32)) = (1 : Int32))]
      exact kt
    have f41 : Fld Z T6.heap a1 "java/lang/String" "coder" "B" (.int 0) := (F2.keep K6 nin0)
    have f42 : Exa Z T6.heap a1 "java/lang/String" := (E1.keep K6)
    obtain ⟨T43, h43, X43, e43, W43, st43⟩ := putFN X38 hx hZ hown (hw _ (own_w 22 rfl)) Via.refl eq38 f41 f42 (Or.inr ⟨(hw _ (own_w 18 rfl)), rfl, hnm⟩) (hw _ (own_w 3 rfl)) (ty := .byte) (v' := (.int 1)) (by decide) rfl (by decide) (g := (mkF m 48 #[.val (.ref a1), .val (.ref a2), .val (.int 0), .val (.int 2), .val .null, .val (.ref b7)] [(.int 1), (.ref a1)])) rfl rfl (hb hby d2_48)
    have N43 := Fr.snoc X43 N38 g1
    have zs44 : n0 ≤ h43.size := Nat.le_trans zs15 (Keep.of_wr W43).1
    have kc45 : Keep h0 h43 [a1] := kc16.wr W43 (Or.inl (List.mem_of_getElem? (i := 0) rfl))
    have fw43 : Fld Z h43 a1 "java/lang/String" "coder" "B" (.int 1) := f41.same W43
    have pre46 : own_Go p e below S0 (T43.setTop (mkF m 54 #[.val (.ref a1), .val (.ref a2), .val (.int 0), .val (.int 2), .val .null, .val (.ref b7)] [(.ref b7), (.ref a1)])) := by
      intro t kt
      refine pre40 t ?_
      refine st43 _ ?_
      refine XS.aloadN X43.here hx rfl (hb hby d2_51) rfl rfl ?_
      refine XS.aload X43.here hx rfl (hb hby d2_52) rfl rfl ?_
      exact kt
    have f47 : Fld Z h43 a1 "java/lang/String" "value" "[B" .null := ((F1.keep K6 nin0).other W43 (Or.inr (slot_ne (Or.inr (hw _ (own_w 17 rfl))) (Or.inr (hw _ (own_w 18 rfl))) (by decide) (t := (.array .byte)) (t' := .byte) (by decide) (by decide))))
    have f48 : Exa Z h43 a1 "java/lang/String" := (f42.wr W43)
    obtain ⟨T49, h49, X49, e49, W49, st49⟩ := putF X43 hx hZ hown (host := "") (Or.inl (hw _ (own_w 21 rfl))) Via.refl e43 f47 f48 (Or.inr ⟨(hw _ (own_w 17 rfl)), rfl, hnm⟩) (hw _ (own_w 3 rfl)) (ty := (.array .byte)) (by decide) rfl rfl (g := (mkF m 54 #[.val (.ref a1), .val (.ref a2), .val (.int 0), .val (.int 2), .val .null, .val (.ref b7)] [(.ref b7), (.ref a1)])) rfl rfl (hb hby d2_54)
    have N49 := Fr.snoc X49 N43 g1
    have zs50 : n0 ≤ h49.size := Nat.le_trans zs44 (Keep.of_wr W49).1
    have kc51 : Keep h0 h49 [a1] := kc45.wr W49 (Or.inl (List.mem_of_getElem? (i := 0) rfl))
    have fw49 : Fld Z h49 a1 "java/lang/String" "value" "[B" (.ref b7) := f47.same W49
    have pre52 : own_Go p e below S0 (T49.setTop (mkF m 57 #[.val (.ref a1), .val (.ref a2), .val (.int 0), .val (.int 2), .val .null, .val (.ref b7)] [])) := by
      intro t kt
      refine pre46 t ?_
      refine st49 _ ?_
      exact kt
    have f53 : Exa Z h49 a1 "java/lang/String" := (f48.wr W49)
    have f54 : Fld Z h49 a1 "java/lang/String" "coder" "B" (.int 1) := (fw43.other W49 (Or.inr (slot_ne (Or.inr (hw _ (own_w 18 rfl))) (Or.inr (hw _ (own_w 17 rfl))) (by decide) (t := .byte) (t' := (.array .byte)) (by decide) (by decide))))
    have f55 : Arv Z h49 b7 kb8 .byte (4 : Int32) [(.int (nar .byte ((c0 >>> ((0 : Int32) &&& 31)).toInt8.toInt32))), (.int (nar .byte ((c0 >>> ((8 : Int32) &&& 31)).toInt8.toInt32))), (.int (nar .byte ((c1 >>> ((0 : Int32) &&& 31)).toInt8.toInt32))), (.int (nar .byte ((c1 >>> ((8 : Int32) &&& 31)).toInt8.toInt32)))] (.int 0) := ((hv.other W43 (Ne.symm ne11)).other W49 (Ne.symm ne11))
    obtain ⟨fs, hr, hrun, hended, hW, hsame⟩ := X49.leave (v := none) (fun _ => rfl)
    refine ⟨_, _, fin _ (pre52 _ ?_), hrun, hended, _, _, rfl, ?_, ⟨_, rfl⟩, hW, hsame.mono (by decide) (by decide)⟩
    · exact X49.returnOut hx Bd.returns (hb hby d2_57) hr
    · show Qinit4_2 Z a1 a2 kc c0 c1 wC h0 n0 _ T49.heap _
      rw [e49]
      exact ⟨b7, kb8, rfl, N49, kc51, sz14, ⟨f53, fw49, Or.inr ⟨f54, hl, f55⟩⟩⟩

theorem ef_init1_2 (m : MethodId) (x0 : Addr) (x1 : Addr) : entryFrame m #[(.ref x0), (.ref x1)] 2 = mkF m 0 #[.val (.ref x0), .val (.ref x1)] [] := by first | (simp [entryFrame, mkF, argsToLocals, Value.category]; done) | rfl
def Qinit1_2 (Z : State) (a1 : Addr) (a2 : Addr) (kc : ClassId) (c0 : Int32) (c1 : Int32) (wC : Int32) (h0 : Heap) (n0 : Nat) (v : Option Value) (h : Heap) (L : List Loc) : Prop := ∃ vb : Addr, ∃ kb : ClassId, v = none ∧ Fr n0 L ∧ Keep h0 h [a1] ∧ h0.size ≤ vb ∧ own_Str Z h a1 vb kb [c0, c1]
set_option maxRecDepth 65536 in
set_option maxHeartbeats 40000000 in
theorem rminit1_2 (l : Launch) (Z : State) (a0 : Array Value) (hw : ∀ d ∈ tables_1, d.before a0 Z = true) (ws : List Jvm.Cond) (a1 : Addr) (a2 : Addr) (kc : ClassId) (c0 : Int32) (c1 : Int32) (wC : Int32) (h0 : Heap) (n0 : Nat) (Z0 : n0 ≤ h0.size) (O0 : Old Z n0 h0) (qC : (own_SC Z wC)) (qU : (own_SU Z)) (E1 : Exa Z h0 a1 "java/lang/String") (F1 : Fld Z h0 a1 "java/lang/String" "value" "[B" .null) (F2 : Fld Z h0 a1 "java/lang/String" "coder" "B" (.int 0)) (g1 : n0 ≤ a1) (VC : Arv Z h0 a2 kc .char (2 : Int32) [(.int c0), (.int c1)] (.int 0)) :
    MetFree l own_m3 (head1 (Jvm.Cond.code own_m3 jdk_42_method_3_code 2 none :: ws) (own_r 5 2 6 74)) (fun a U => a = #[(.ref a1), (.ref a2)] ∧ Z.Warmed39 U.vm ∧ U.heap = h0) (fun _ _ _ _ _ => True) (fun _ U o U' => ∃ v L, o = .returned v ∧ Qinit1_2 Z a1 a2 kc c0 c1 wC h0 n0 v U'.heap L ∧ FrameEnd U o U' L (own_r 5 2 6 74).cells (own_r 5 2 6 74).slots) := by
  refine MetFree.of_bodySF (plainFor_of_name pn_1) hisR ?_
  intro p e s m args below meth c s₁ Bd hml0 hP hK
  obtain ⟨rfl, hZ, hh⟩ := hP
  have hx := Bd.exec
  have hby := Bd.bytes
  have hml : c.maxLocals = 2 := hml0
  have hown0 := findClass_of_methodNamed Bd.named
  have hown : s.vm.findClass "java/lang/String" = some m.cls := hown0
  have hnm := (name_of_methodNamed Bd.named Bd.method).1
  have X0 : Stand p l e (own_r 5 2 6 74) s m #[(.ref a1), (.ref a2)] below meth c s₁ [] 0 0 := Stand.of_body Bd
  have e0 : s₁.heap = h0 := by rw [← hh, Bd.state]; rfl
  have N0 := Fr.nil n0
  obtain ⟨S0, hS0⟩ : ∃ z, z = s₁.setTop (entryFrame m #[(.ref a1), (.ref a2)] 2) := ⟨_, rfl⟩
  have pre0 : own_Go p e below S0 (s₁.setTop (mkF m 0 #[.val (.ref a1), .val (.ref a2)] [])) := fun t k => by rw [hS0]; exact castTop (ef_init1_2 m a1 a2) k
  have fin : ∀ t, Steps p.tables e below S0 t → Steps p.tables e below (s₁.setTop (entryFrame m #[(.ref a1), (.ref a2)] 2)) t := fun t k => by rw [hS0] at k; exact k
  have kc0 : Keep h0 h0 [a1] := Keep.refl _ _
  have pre1 : own_Go p e below S0 (s₁.setTop (mkF m 4 #[.val (.ref a1), .val (.ref a2)] [(.ref a2), (.int 0), (.ref a2), (.ref a1)])) := by
    intro t kt
    refine pre0 t ?_
    refine XS.aloadN X0.here hx rfl (hb hby d1_0) rfl rfl ?_
    refine XS.aloadN X0.here hx rfl (hb hby d1_1) rfl rfl ?_
    refine XS.iconst X0.here hx rfl (hb hby d1_2) ?_
    refine XS.aloadN X0.here hx rfl (hb hby d1_3) rfl rfl ?_
    exact kt
  obtain ⟨cl2, Ar2, -, Sz2, Ng2, -, -⟩ := id VC
  have pre3 : own_Go p e below S0 (s₁.setTop (mkF m 6 #[.val (.ref a1), .val (.ref a2)] [.null, (.int 2), (.int 0), (.ref a2), (.ref a1)])) := by
    intro t kt
    refine pre1 t ?_
    refine X0.arraylength hx (by rw [e0]; exact Ar2.1) (State.isArrayOf_alike hZ.alike Ar2.2.1) (g := (mkF m 4 #[.val (.ref a1), .val (.ref a2)] [(.ref a2), (.int 0), (.ref a2), (.ref a1)])) rfl rfl (hb hby d1_4) _ ?_
    rw [len_of Sz2 Ng2]
    show Steps p.tables e below (s₁.setTop (mkF m 5 #[.val (.ref a1), .val (.ref a2)] [(.int 2), (.int 0), (.ref a2), (.ref a1)])) _
    refine XS.aconstNull X0.here hx rfl (hb hby d1_5) ?_
    exact kt
  obtain ⟨_, _, ⟨T4, L4, k4, n4⟩, -, X4, ⟨Lc4, hQ4, l4, y4, z4⟩, st4⟩ := X0.specialBack hx (y := own_m4) rfl hown (mvT hZ (hw _ (own_w 8 rfl))) (mvT hZ (hw _ (own_w 9 rfl))) (mvT hZ (hw _ (own_w 11 rfl))) (by decide) (backOf (W := 0) (rminit4_2 l Z a0 hw [] a1 a2 kc c0 c1 wC h0 n0 Z0 O0 qC qU E1 F1 F2 g1 VC) hZ (hw _ (own_w 11 rfl)) (hw _ (own_w 4 rfl)) (by decide) (by decide)) (g := (mkF m 6 #[.val (.ref a1), .val (.ref a2)] [.null, (.int 2), (.int 0), (.ref a2), (.ref a1)])) rfl (by rw [hml]; rfl) (Steps.refl _) (a := a1) (argsL := [(.ref a2), (.int 0), (.int 2), .null]) (rest := []) (lenOf pd_0 rfl) rfl (by show 2 * 0 + _ ≤ _; exact Nat.le_of_eq rfl) (hb hby d1_6) (fun _ _ => ⟨rfl, e0, (by decide : 0 + 2 ≤ _), (by decide : 0 + 6 ≤ _)⟩)
  dsimp only [Pt.U, Pt.locs, Pt.cells, Pt.slots] at X4 l4 y4 z4 st4 hQ4
  subst l4 y4 z4
  obtain ⟨vb5, kb6, rfl, Nq4, K4, g7, g8⟩ := hQ4
  have N4 := Fr.app N0 Nq4
  have ne9 : a1 ≠ vb5 := Nat.ne_of_lt (Nat.lt_of_lt_of_le E1.lt g7)
  have ne10 : a2 ≠ vb5 := Nat.ne_of_lt (Nat.lt_of_lt_of_le VC.lt g7)
  have ge11 : n0 ≤ vb5 := Nat.le_trans Z0 g7
  have sz12 : h0.size ≤ vb5 := Nat.le_trans kc0.1 g7
  have zs13 : n0 ≤ T4.heap.size := Nat.le_trans Z0 K4.1
  have kc14 : Keep h0 T4.heap [a1] := kc0.trans K4 (allS (Or.inl (List.mem_of_getElem? (i := 0) rfl)) all0)
  have pre15 : own_Go p e below S0 (T4.setTop (mkF m 9 #[.val (.ref a1), .val (.ref a2)] [])) := by
    intro t kt
    refine pre3 t ?_
    refine st4.trans ?_
    show Steps p.tables e below (T4.setTop (mkF m 9 #[.val (.ref a1), .val (.ref a2)] [])) _
    exact kt
  obtain ⟨fs, hr, hrun, hended, hW, hsame⟩ := X4.leave (v := none) (fun _ => rfl)
  refine ⟨_, _, fin _ (pre15 _ ?_), hrun, hended, _, _, rfl, ?_, ⟨_, rfl⟩, hW, hsame.mono (by decide) (by decide)⟩
  · exact X4.returnOut hx Bd.returns (hb hby d1_9) hr
  · show Qinit1_2 Z a1 a2 kc c0 c1 wC h0 n0 _ T4.heap _
    exact ⟨vb5, kb6, rfl, N4, kc14, sz12, g8⟩

theorem ef_cmp5_3 (m : MethodId) (x0 : Addr) (x2 : Addr) : entryFrame m #[(.ref x0), (.int 0), (.ref x2), (.int 0), (.int 3)] 7 = mkF m 0 #[.val (.ref x0), .val (.int 0), .val (.ref x2), .val (.int 0), .val (.int 3), .unset, .unset] [] := by first | (simp [entryFrame, mkF, argsToLocals, Value.category]; done) | rfl
def Qcmp5_3 (Z : State) (a1 : Addr) (a2 : Addr) (kc : ClassId) (kb : ClassId) (c0 : Int32) (c1 : Int32) (c2 : Int32) (h0 : Heap) (n0 : Nat) (v : Option Value) (h : Heap) (L : List Loc) : Prop := ∃ r : Int32, v = (some (.int r)) ∧ Fr n0 L ∧ Keep h0 h [a2] ∧ ((r = (3 : Int32) ∧ own_Lat [c0, c1, c2] ∧ Arv Z h a2 kb .byte (3 : Int32) [(.int (nar .byte (c0.toInt8.toInt32))), (.int (nar .byte (c1.toInt8.toInt32))), (.int (nar .byte (c2.toInt8.toInt32)))] (.int 0)) ∨ (r = (0 : Int32) ∧ (255 : Int32) < c0) ∨ (r = (1 : Int32) ∧ (255 : Int32) < c1) ∨ (r = (2 : Int32) ∧ (255 : Int32) < c2))
set_option maxRecDepth 65536 in
set_option maxHeartbeats 40000000 in
theorem rmcmp5_3 (l : Launch) (Z : State) (a0 : Array Value) (hw : ∀ d ∈ tables_1, d.before a0 Z = true) (ws : List Jvm.Cond) (a1 : Addr) (a2 : Addr) (kc : ClassId) (kb : ClassId) (c0 : Int32) (c1 : Int32) (c2 : Int32) (h0 : Heap) (n0 : Nat) (Z0 : n0 ≤ h0.size) (VC : Arv Z h0 a1 kc .char (3 : Int32) [(.int c0), (.int c1), (.int c2)] (.int 0)) (g2 : n0 ≤ a2) (VB : Arv Z h0 a2 kb .byte (3 : Int32) [(.int 0), (.int 0), (.int 0)] (.int 0)) (n12 : a1 ≠ a2) :
    MetFree l own_m15 (head1 (Jvm.Cond.code own_m15 jdk_52_method_21_code 7 (some .int) :: ws) (own_r 0 0 0 0)) (fun a U => a = #[(.ref a1), (.int 0), (.ref a2), (.int 0), (.int 3)] ∧ Z.Warmed39 U.vm ∧ U.heap = h0) (fun _ _ _ _ _ => True) (fun _ U o U' => ∃ v L, o = .returned v ∧ Qcmp5_3 Z a1 a2 kc kb c0 c1 c2 h0 n0 v U'.heap L ∧ FrameEnd U o U' L (own_r 0 0 0 0).cells (own_r 0 0 0 0).slots) := by
  refine MetFree.of_bodySF (plainFor_of_name pn_8) hisR ?_
  intro p e s m args below meth c s₁ Bd hml0 hP hK
  obtain ⟨rfl, hZ, hh⟩ := hP
  have hx := Bd.exec
  have hby := Bd.bytes
  have hml : c.maxLocals = 7 := hml0
  have hown0 := findClass_of_methodNamed Bd.named
  have hown : s.vm.findClass "java/lang/StringUTF16" = some m.cls := hown0
  have hnm := (name_of_methodNamed Bd.named Bd.method).1
  have X0 : Stand p l e (own_r 0 0 0 0) s m #[(.ref a1), (.int 0), (.ref a2), (.int 0), (.int 3)] below meth c s₁ [] 0 0 := Stand.of_body Bd
  have e0 : s₁.heap = h0 := by rw [← hh, Bd.state]; rfl
  have N0 := Fr.nil n0
  obtain ⟨S0, hS0⟩ : ∃ z, z = s₁.setTop (entryFrame m #[(.ref a1), (.int 0), (.ref a2), (.int 0), (.int 3)] 7) := ⟨_, rfl⟩
  have pre0 : own_Go p e below S0 (s₁.setTop (mkF m 0 #[.val (.ref a1), .val (.int 0), .val (.ref a2), .val (.int 0), .val (.int 3), .unset, .unset] [])) := fun t k => by rw [hS0]; exact castTop (ef_cmp5_3 m a1 a2) k
  have fin : ∀ t, Steps p.tables e below S0 t → Steps p.tables e below (s₁.setTop (entryFrame m #[(.ref a1), (.int 0), (.ref a2), (.int 0), (.int 3)] 7)) t := fun t k => by rw [hS0] at k; exact k
  have kc0 : Keep h0 h0 [a2] := Keep.refl _ _
  have pre1 : own_Go p e below S0 (s₁.setTop (mkF m 12 #[.val (.ref a1), .val (.int 0), .val (.ref a2), .val (.int 0), .val (.int 3), .val (.int 0), .unset] [(.int 0), (.ref a1)])) := by
    intro t kt
    refine pre0 t ?_
    refine XS.iconst X0.here hx rfl (hb hby d8_0) ?_
    refine XS.istore X0.here hx rfl (hb hby d8_1) rfl (l' := #[.val (.ref a1), .val (.int 0), .val (.ref a2), .val (.int 0), .val (.int 3), .val (.int 0), .unset]) rfl ?_
    refine XS.iload X0.here hx rfl (hb hby d8_3) rfl ?_
    refine XS.iload X0.here hx rfl (hb hby d8_5) rfl ?_
    refine XS.icmpNo X0.here hx rfl (hb hby d8_7) rfl (tlt (by decide : (0 : Int32) < (3 : Int32))).2.1 ?_
    refine XS.aloadN X0.here hx rfl (hb hby d8_10) rfl rfl ?_
    show Steps p.tables e below (s₁.setTop (mkF m 11 #[.val (.ref a1), .val (.int 0), .val (.ref a2), .val (.int 0), .val (.int 3), .val (.int 0), .unset] [(.ref a1)])) _
    refine XS.iloadN X0.here hx rfl (hb hby d8_11) rfl ?_
    exact kt
  obtain ⟨cl2, Ar2, -, Sz2, -, Hs2, -⟩ := id VC
  have hin2 : ¬ ((0 : Int32) < 0 ∨ cl2.slots.size ≤ ((0 : Int32)).toNatClampNeg) := inb_of Sz2 ⟨by decide, by decide⟩
  have pre4 : own_Go p e below S0 (s₁.setTop (mkF m 20 #[.val (.ref a1), .val (.int 0), .val (.ref a2), .val (.int 0), .val (.int 3), .val (.int 0), .val (.int c0)] [(.int 255), (.int c0)])) := by
    intro t kt
    refine pre1 t ?_
    refine X0.caload hx (j := (0 : Int32)) (v := (.int c0)) (by rw [e0]; exact Ar2.1) (State.isArrayOf_alike hZ.alike Ar2.2.1) Ar2.2.2 hin2 (Hs2.at hin2 rfl) (g := (mkF m 12 #[.val (.ref a1), .val (.int 0), .val (.ref a2), .val (.int 0), .val (.int 3), .val (.int 0), .unset] [(.int 0), (.ref a1)])) rfl rfl (hb hby d8_12) _ ?_
    refine XS.istore X0.here hx rfl (hb hby d8_13) rfl (l' := #[.val (.ref a1), .val (.int 0), .val (.ref a2), .val (.int 0), .val (.int 3), .val (.int 0), .val (.int c0)]) rfl ?_
    refine XS.iload X0.here hx rfl (hb hby d8_15) rfl ?_
    refine XS.sipush X0.here hx rfl (hb hby d8_17) ?_
    exact kt
  by_cases hc3 : (255 : Int32) < c0
  · have pre5 : own_Go p e below S0 (s₁.setTop (mkF m 25 #[.val (.ref a1), .val (.int 0), .val (.ref a2), .val (.int 0), .val (.int 3), .val (.int 0), .val (.int c0)] [(.int 0)])) := by
      intro t kt
      refine pre4 t ?_
      refine XS.icmpNo X0.here hx rfl (hb hby d8_20) rfl (tlt hc3).2.2.2 ?_
      refine XS.iload X0.here hx rfl (hb hby d8_23) rfl ?_
      exact kt
    obtain ⟨fs, hr, hrun, hended, hW, hsame⟩ := X0.leave (v := some (.int 0)) (fun h => by rw [Bd.returns] at h; cases h)
    refine ⟨_, _, fin _ (pre5 _ ?_), hrun, hended, _, _, rfl, ?_, ⟨_, rfl⟩, hW, hsame.mono (by decide) (by decide)⟩
    · exact retI X0 hx Bd.returns (hb hby d8_25) hr
    · show Qcmp5_3 Z a1 a2 kc kb c0 c1 c2 h0 n0 _ s₁.heap _
      rw [e0]
      exact ⟨(0 : Int32), rfl, N0, kc0, (Or.inr (Or.inl ⟨rfl, hc3⟩))⟩
  · have pre6 : own_Go p e below S0 (s₁.setTop (mkF m 31 #[.val (.ref a1), .val (.int 0), .val (.ref a2), .val (.int 0), .val (.int 3), .val (.int 0), .val (.int c0)] [(.int (c0.toInt8.toInt32)), (.int 0), (.ref a2)])) := by
      intro t kt
      refine pre4 t ?_
      refine XS.icmpYes X0.here hx rfl (pc0 := 20) (pc' := 26) rfl (hb hby d8_20) rfl (flt hc3).2.2.2 (by decide) (by decide) ?_
      refine XS.aloadN X0.here hx rfl (hb hby d8_26) rfl rfl ?_
      refine XS.iloadN X0.here hx rfl (hb hby d8_27) rfl ?_
      refine XS.iload X0.here hx rfl (hb hby d8_28) rfl ?_
      refine XS.i2b X0.here hx rfl (hb hby d8_30) rfl ?_
      exact kt
    obtain ⟨cl7, Ar7, q7, Sz7, Ng7, Hs7, Gt7⟩ := id VB
    have hin7 : ¬ ((0 : Int32) < 0 ∨ cl7.slots.size ≤ ((0 : Int32)).toNatClampNeg) := inb_of Sz7 ⟨by decide, by decide⟩
    obtain ⟨T7, h7, X7, e7, W7, st7⟩ := stB X0 hx hZ e0 Ar7 (j := (0 : Int32)) hin7 (g := (mkF m 31 #[.val (.ref a1), .val (.int 0), .val (.ref a2), .val (.int 0), .val (.int 3), .val (.int 0), .val (.int c0)] [(.int (c0.toInt8.toInt32)), (.int 0), (.ref a2)])) rfl rfl (hb hby d8_31)
    have N7 := Fr.snoc X7 N0 g2
    have zs8 : n0 ≤ h7.size := Nat.le_trans Z0 (Keep.of_wr W7).1
    have kc9 : Keep h0 h7 [a2] := kc0.wr W7 (Or.inl (List.mem_of_getElem? (i := 0) rfl))
    have V7 : Arv Z h7 a2 kb .byte (3 : Int32) [(.int (nar .byte (c0.toInt8.toInt32))), (.int 0), (.int 0)] (.int 0) := Arv.set Ar7 q7 Sz7 Ng7 Hs7 Gt7 (fits_nar_byte _) W7 0 rfl (Nat.le_of_ble_eq_true rfl)
    have pre10 : own_Go p e below S0 (T7.setTop (mkF m 12 #[.val (.ref a1), .val (.int 1), .val (.ref a2), .val (.int 1), .val (.int 3), .val (.int 1), .val (.int c0)] [(.int 1), (.ref a1)])) := by
      intro t kt
      refine pre6 t ?_
      refine st7 _ ?_
      refine XS.iinc X7.here hx rfl (hb hby d8_32) rfl (l' := #[.val (.ref a1), .val (.int 1), .val (.ref a2), .val (.int 0), .val (.int 3), .val (.int 0), .val (.int c0)]) rfl ?_
      refine XS.iinc X7.here hx rfl (hb hby d8_35) rfl (l' := #[.val (.ref a1), .val (.int 1), .val (.ref a2), .val (.int 1), .val (.int 3), .val (.int 0), .val (.int c0)]) rfl ?_
      refine XS.iinc X7.here hx rfl (hb hby d8_38) rfl (l' := #[.val (.ref a1), .val (.int 1), .val (.ref a2), .val (.int 1), .val (.int 3), .val (.int 1), .val (.int c0)]) rfl ?_
      refine XS.goto X7.here hx rfl (pc0 := 41) (pc' := 3) rfl (hb hby d8_41) (by decide) (by decide) ?_
      refine XS.iload X7.here hx rfl (hb hby d8_3) rfl ?_
      show Steps p.tables e below (T7.setTop (mkF m 5 #[.val (.ref a1), .val (.int 1), .val (.ref a2), .val (.int 1), .val (.int 3), .val (.int 1), .val (.int c0)] [(.int 1)])) _
      refine XS.iload X7.here hx rfl (hb hby d8_5) rfl ?_
      refine XS.icmpNo X7.here hx rfl (hb hby d8_7) rfl (tlt (by decide : (1 : Int32) < (3 : Int32))).2.1 ?_
      refine XS.aloadN X7.here hx rfl (hb hby d8_10) rfl rfl ?_
      refine XS.iloadN X7.here hx rfl (hb hby d8_11) rfl ?_
      exact kt
    have f11 : Arv Z h7 a1 kc .char (3 : Int32) [(.int c0), (.int c1), (.int c2)] (.int 0) := (VC.other W7 n12)
    obtain ⟨cl12, Ar12, -, Sz12, -, Hs12, -⟩ := id f11
    have hin12 : ¬ ((1 : Int32) < 0 ∨ cl12.slots.size ≤ ((1 : Int32)).toNatClampNeg) := inb_of Sz12 ⟨by decide, by decide⟩
    have pre14 : own_Go p e below S0 (T7.setTop (mkF m 20 #[.val (.ref a1), .val (.int 1), .val (.ref a2), .val (.int 1), .val (.int 3), .val (.int 1), .val (.int c1)] [(.int 255), (.int c1)])) := by
      intro t kt
      refine pre10 t ?_
      refine X7.caload hx (j := (1 : Int32)) (v := (.int c1)) (by rw [e7]; exact Ar12.1) (State.isArrayOf_alike hZ.alike Ar12.2.1) Ar12.2.2 hin12 (Hs12.at hin12 rfl) (g := (mkF m 12 #[.val (.ref a1), .val (.int 1), .val (.ref a2), .val (.int 1), .val (.int 3), .val (.int 1), .val (.int c0)] [(.int 1), (.ref a1)])) rfl rfl (hb hby d8_12) _ ?_
      refine XS.istore X7.here hx rfl (hb hby d8_13) rfl (l' := #[.val (.ref a1), .val (.int 1), .val (.ref a2), .val (.int 1), .val (.int 3), .val (.int 1), .val (.int c1)]) rfl ?_
      refine XS.iload X7.here hx rfl (hb hby d8_15) rfl ?_
      refine XS.sipush X7.here hx rfl (hb hby d8_17) ?_
      exact kt
    by_cases hc13 : (255 : Int32) < c1
    · have pre15 : own_Go p e below S0 (T7.setTop (mkF m 25 #[.val (.ref a1), .val (.int 1), .val (.ref a2), .val (.int 1), .val (.int 3), .val (.int 1), .val (.int c1)] [(.int 1)])) := by
        intro t kt
        refine pre14 t ?_
        refine XS.icmpNo X7.here hx rfl (hb hby d8_20) rfl (tlt hc13).2.2.2 ?_
        refine XS.iload X7.here hx rfl (hb hby d8_23) rfl ?_
        exact kt
      obtain ⟨fs, hr, hrun, hended, hW, hsame⟩ := X7.leave (v := some (.int 1)) (fun h => by rw [Bd.returns] at h; cases h)
      refine ⟨_, _, fin _ (pre15 _ ?_), hrun, hended, _, _, rfl, ?_, ⟨_, rfl⟩, hW, hsame.mono (by decide) (by decide)⟩
      · exact retI X7 hx Bd.returns (hb hby d8_25) hr
      · show Qcmp5_3 Z a1 a2 kc kb c0 c1 c2 h0 n0 _ T7.heap _
        rw [e7]
        exact ⟨(1 : Int32), rfl, N7, kc9, (Or.inr (Or.inr (Or.inl ⟨rfl, hc13⟩)))⟩
    · have pre16 : own_Go p e below S0 (T7.setTop (mkF m 31 #[.val (.ref a1), .val (.int 1), .val (.ref a2), .val (.int 1), .val (.int 3), .val (.int 1), .val (.int c1)] [(.int (c1.toInt8.toInt32)), (.int 1), (.ref a2)])) := by
        intro t kt
        refine pre14 t ?_
        refine XS.icmpYes X7.here hx rfl (pc0 := 20) (pc' := 26) rfl (hb hby d8_20) rfl (flt hc13).2.2.2 (by decide) (by decide) ?_
        refine XS.aloadN X7.here hx rfl (hb hby d8_26) rfl rfl ?_
        refine XS.iloadN X7.here hx rfl (hb hby d8_27) rfl ?_
        refine XS.iload X7.here hx rfl (hb hby d8_28) rfl ?_
        refine XS.i2b X7.here hx rfl (hb hby d8_30) rfl ?_
        exact kt
      obtain ⟨cl17, Ar17, q17, Sz17, Ng17, Hs17, Gt17⟩ := id V7
      have hin17 : ¬ ((1 : Int32) < 0 ∨ cl17.slots.size ≤ ((1 : Int32)).toNatClampNeg) := inb_of Sz17 ⟨by decide, by decide⟩
      obtain ⟨T17, h17, X17, e17, W17, st17⟩ := stB X7 hx hZ e7 Ar17 (j := (1 : Int32)) hin17 (g := (mkF m 31 #[.val (.ref a1), .val (.int 1), .val (.ref a2), .val (.int 1), .val (.int 3), .val (.int 1), .val (.int c1)] [(.int (c1.toInt8.toInt32)), (.int 1), (.ref a2)])) rfl rfl (hb hby d8_31)
      have N17 := Fr.snoc X17 N7 g2
      have zs18 : n0 ≤ h17.size := Nat.le_trans zs8 (Keep.of_wr W17).1
      have kc19 : Keep h0 h17 [a2] := kc9.wr W17 (Or.inl (List.mem_of_getElem? (i := 0) rfl))
      have V17 : Arv Z h17 a2 kb .byte (3 : Int32) [(.int (nar .byte (c0.toInt8.toInt32))), (.int (nar .byte (c1.toInt8.toInt32))), (.int 0)] (.int 0) := Arv.set Ar17 q17 Sz17 Ng17 Hs17 Gt17 (fits_nar_byte _) W17 1 rfl (Nat.le_of_ble_eq_true rfl)
      have pre20 : own_Go p e below S0 (T17.setTop (mkF m 12 #[.val (.ref a1), .val (.int 2), .val (.ref a2), .val (.int 2), .val (.int 3), .val (.int 2), .val (.int c1)] [(.int 2), (.ref a1)])) := by
        intro t kt
        refine pre16 t ?_
        refine st17 _ ?_
        refine XS.iinc X17.here hx rfl (hb hby d8_32) rfl (l' := #[.val (.ref a1), .val (.int 2), .val (.ref a2), .val (.int 1), .val (.int 3), .val (.int 1), .val (.int c1)]) rfl ?_
        refine XS.iinc X17.here hx rfl (hb hby d8_35) rfl (l' := #[.val (.ref a1), .val (.int 2), .val (.ref a2), .val (.int 2), .val (.int 3), .val (.int 1), .val (.int c1)]) rfl ?_
        refine XS.iinc X17.here hx rfl (hb hby d8_38) rfl (l' := #[.val (.ref a1), .val (.int 2), .val (.ref a2), .val (.int 2), .val (.int 3), .val (.int 2), .val (.int c1)]) rfl ?_
        refine XS.goto X17.here hx rfl (pc0 := 41) (pc' := 3) rfl (hb hby d8_41) (by decide) (by decide) ?_
        refine XS.iload X17.here hx rfl (hb hby d8_3) rfl ?_
        show Steps p.tables e below (T17.setTop (mkF m 5 #[.val (.ref a1), .val (.int 2), .val (.ref a2), .val (.int 2), .val (.int 3), .val (.int 2), .val (.int c1)] [(.int 2)])) _
        refine XS.iload X17.here hx rfl (hb hby d8_5) rfl ?_
        refine XS.icmpNo X17.here hx rfl (hb hby d8_7) rfl (tlt (by decide : (2 : Int32) < (3 : Int32))).2.1 ?_
        refine XS.aloadN X17.here hx rfl (hb hby d8_10) rfl rfl ?_
        refine XS.iloadN X17.here hx rfl (hb hby d8_11) rfl ?_
        exact kt
      have f21 : Arv Z h17 a1 kc .char (3 : Int32) [(.int c0), (.int c1), (.int c2)] (.int 0) := (f11.other W17 n12)
      obtain ⟨cl22, Ar22, -, Sz22, -, Hs22, -⟩ := id f21
      have hin22 : ¬ ((2 : Int32) < 0 ∨ cl22.slots.size ≤ ((2 : Int32)).toNatClampNeg) := inb_of Sz22 ⟨by decide, by decide⟩
      have pre24 : own_Go p e below S0 (T17.setTop (mkF m 20 #[.val (.ref a1), .val (.int 2), .val (.ref a2), .val (.int 2), .val (.int 3), .val (.int 2), .val (.int c2)] [(.int 255), (.int c2)])) := by
        intro t kt
        refine pre20 t ?_
        refine X17.caload hx (j := (2 : Int32)) (v := (.int c2)) (by rw [e17]; exact Ar22.1) (State.isArrayOf_alike hZ.alike Ar22.2.1) Ar22.2.2 hin22 (Hs22.at hin22 rfl) (g := (mkF m 12 #[.val (.ref a1), .val (.int 2), .val (.ref a2), .val (.int 2), .val (.int 3), .val (.int 2), .val (.int c1)] [(.int 2), (.ref a1)])) rfl rfl (hb hby d8_12) _ ?_
        refine XS.istore X17.here hx rfl (hb hby d8_13) rfl (l' := #[.val (.ref a1), .val (.int 2), .val (.ref a2), .val (.int 2), .val (.int 3), .val (.int 2), .val (.int c2)]) rfl ?_
        refine XS.iload X17.here hx rfl (hb hby d8_15) rfl ?_
        refine XS.sipush X17.here hx rfl (hb hby d8_17) ?_
        exact kt
      by_cases hc23 : (255 : Int32) < c2
      · have pre25 : own_Go p e below S0 (T17.setTop (mkF m 25 #[.val (.ref a1), .val (.int 2), .val (.ref a2), .val (.int 2), .val (.int 3), .val (.int 2), .val (.int c2)] [(.int 2)])) := by
          intro t kt
          refine pre24 t ?_
          refine XS.icmpNo X17.here hx rfl (hb hby d8_20) rfl (tlt hc23).2.2.2 ?_
          refine XS.iload X17.here hx rfl (hb hby d8_23) rfl ?_
          exact kt
        obtain ⟨fs, hr, hrun, hended, hW, hsame⟩ := X17.leave (v := some (.int 2)) (fun h => by rw [Bd.returns] at h; cases h)
        refine ⟨_, _, fin _ (pre25 _ ?_), hrun, hended, _, _, rfl, ?_, ⟨_, rfl⟩, hW, hsame.mono (by decide) (by decide)⟩
        · exact retI X17 hx Bd.returns (hb hby d8_25) hr
        · show Qcmp5_3 Z a1 a2 kc kb c0 c1 c2 h0 n0 _ T17.heap _
          rw [e17]
          exact ⟨(2 : Int32), rfl, N17, kc19, (Or.inr (Or.inr (Or.inr (⟨rfl, hc23⟩))))⟩
      · have pre26 : own_Go p e below S0 (T17.setTop (mkF m 31 #[.val (.ref a1), .val (.int 2), .val (.ref a2), .val (.int 2), .val (.int 3), .val (.int 2), .val (.int c2)] [(.int (c2.toInt8.toInt32)), (.int 2), (.ref a2)])) := by
          intro t kt
          refine pre24 t ?_
          refine XS.icmpYes X17.here hx rfl (pc0 := 20) (pc' := 26) rfl (hb hby d8_20) rfl (flt hc23).2.2.2 (by decide) (by decide) ?_
          refine XS.aloadN X17.here hx rfl (hb hby d8_26) rfl rfl ?_
          refine XS.iloadN X17.here hx rfl (hb hby d8_27) rfl ?_
          refine XS.iload X17.here hx rfl (hb hby d8_28) rfl ?_
          refine XS.i2b X17.here hx rfl (hb hby d8_30) rfl ?_
          exact kt
        obtain ⟨cl27, Ar27, q27, Sz27, Ng27, Hs27, Gt27⟩ := id V17
        have hin27 : ¬ ((2 : Int32) < 0 ∨ cl27.slots.size ≤ ((2 : Int32)).toNatClampNeg) := inb_of Sz27 ⟨by decide, by decide⟩
        obtain ⟨T27, h27, X27, e27, W27, st27⟩ := stB X17 hx hZ e17 Ar27 (j := (2 : Int32)) hin27 (g := (mkF m 31 #[.val (.ref a1), .val (.int 2), .val (.ref a2), .val (.int 2), .val (.int 3), .val (.int 2), .val (.int c2)] [(.int (c2.toInt8.toInt32)), (.int 2), (.ref a2)])) rfl rfl (hb hby d8_31)
        have N27 := Fr.snoc X27 N17 g2
        have zs28 : n0 ≤ h27.size := Nat.le_trans zs18 (Keep.of_wr W27).1
        have kc29 : Keep h0 h27 [a2] := kc19.wr W27 (Or.inl (List.mem_of_getElem? (i := 0) rfl))
        have V27 : Arv Z h27 a2 kb .byte (3 : Int32) [(.int (nar .byte (c0.toInt8.toInt32))), (.int (nar .byte (c1.toInt8.toInt32))), (.int (nar .byte (c2.toInt8.toInt32)))] (.int 0) := Arv.set Ar27 q27 Sz27 Ng27 Hs27 Gt27 (fits_nar_byte _) W27 2 rfl (Nat.le_of_ble_eq_true rfl)
        have pre30 : own_Go p e below S0 (T27.setTop (mkF m 46 #[.val (.ref a1), .val (.int 3), .val (.ref a2), .val (.int 3), .val (.int 3), .val (.int 3), .val (.int c2)] [(.int 3)])) := by
          intro t kt
          refine pre26 t ?_
          refine st27 _ ?_
          refine XS.iinc X27.here hx rfl (hb hby d8_32) rfl (l' := #[.val (.ref a1), .val (.int 3), .val (.ref a2), .val (.int 2), .val (.int 3), .val (.int 2), .val (.int c2)]) rfl ?_
          refine XS.iinc X27.here hx rfl (hb hby d8_35) rfl (l' := #[.val (.ref a1), .val (.int 3), .val (.ref a2), .val (.int 3), .val (.int 3), .val (.int 2), .val (.int c2)]) rfl ?_
          refine XS.iinc X27.here hx rfl (hb hby d8_38) rfl (l' := #[.val (.ref a1), .val (.int 3), .val (.ref a2), .val (.int 3), .val (.int 3), .val (.int 3), .val (.int c2)]) rfl ?_
          refine XS.goto X27.here hx rfl (pc0 := 41) (pc' := 3) rfl (hb hby d8_41) (by decide) (by decide) ?_
          refine XS.iload X27.here hx rfl (hb hby d8_3) rfl ?_
          show Steps p.tables e below (T27.setTop (mkF m 5 #[.val (.ref a1), .val (.int 3), .val (.ref a2), .val (.int 3), .val (.int 3), .val (.int 3), .val (.int c2)] [(.int 3)])) _
          refine XS.iload X27.here hx rfl (hb hby d8_5) rfl ?_
          refine XS.icmpYes X27.here hx rfl (pc0 := 7) (pc' := 44) rfl (hb hby d8_7) rfl (flt (by decide : ¬ ((3 : Int32) < (3 : Int32)))).2.1 (by decide) (by decide) ?_
          refine XS.iload X27.here hx rfl (hb hby d8_44) rfl ?_
          exact kt
        obtain ⟨fs, hr, hrun, hended, hW, hsame⟩ := X27.leave (v := some (.int 3)) (fun h => by rw [Bd.returns] at h; cases h)
        refine ⟨_, _, fin _ (pre30 _ ?_), hrun, hended, _, _, rfl, ?_, ⟨_, rfl⟩, hW, hsame.mono (by decide) (by decide)⟩
        · exact retI X27 hx Bd.returns (hb hby d8_46) hr
        · show Qcmp5_3 Z a1 a2 kc kb c0 c1 c2 h0 n0 _ T27.heap _
          rw [e27]
          exact ⟨(3 : Int32), rfl, N27, kc29, (Or.inl ⟨rfl, ⟨⟨(own_fitAt VC 0 (by decide) rfl).1, own_ltOf hc3⟩, ⟨⟨(own_fitAt VC 1 (by decide) rfl).1, own_ltOf hc13⟩, ⟨⟨(own_fitAt VC 2 (by decide) rfl).1, own_ltOf hc23⟩, trivial⟩⟩⟩, V27⟩)⟩

theorem ef_nfor_3 (m : MethodId)  : entryFrame m #[(.int 3)] 1 = mkF m 0 #[.val (.int 3)] [] := by first | (simp [entryFrame, mkF, argsToLocals, Value.category]; done) | rfl
def Qnfor_3 (Z : State)  (h0 : Heap) (n0 : Nat) (v : Option Value) (h : Heap) (L : List Loc) : Prop := ∃ b : Addr, ∃ kb : ClassId, v = (some (.ref b)) ∧ Fr n0 L ∧ Keep h0 h [] ∧ h0.size ≤ b ∧ Arv Z h b kb .byte (6 : Int32) [(.int 0), (.int 0), (.int 0), (.int 0), (.int 0), (.int 0)] (.int 0)
set_option maxRecDepth 65536 in
set_option maxHeartbeats 40000000 in
theorem rmnfor_3 (l : Launch) (Z : State) (a0 : Array Value) (hw : ∀ d ∈ tables_1, d.before a0 Z = true) (ws : List Jvm.Cond)  (h0 : Heap) (n0 : Nat) (Z0 : n0 ≤ h0.size) :
    MetFree l own_m18 (head1 (Jvm.Cond.code own_m18 jdk_52_method_2_code 1 (some (.array .byte)) :: ws) (own_r 1 1 6 12)) (fun a U => a = #[(.int 3)] ∧ Z.Warmed39 U.vm ∧ U.heap = h0) (fun _ _ _ _ _ => True) (fun _ U o U' => ∃ v L, o = .returned v ∧ Qnfor_3 Z  h0 n0 v U'.heap L ∧ FrameEnd U o U' L (own_r 1 1 6 12).cells (own_r 1 1 6 12).slots) := by
  refine MetFree.of_bodySF (plainFor_of_name pn_18) hisR ?_
  intro p e s m args below meth c s₁ Bd hml0 hP hK
  obtain ⟨rfl, hZ, hh⟩ := hP
  have hx := Bd.exec
  have hby := Bd.bytes
  have hml : c.maxLocals = 1 := hml0
  have hown0 := findClass_of_methodNamed Bd.named
  have hown : s.vm.findClass "java/lang/StringUTF16" = some m.cls := hown0
  have hnm := (name_of_methodNamed Bd.named Bd.method).1
  have X0 : Stand p l e (own_r 1 1 6 12) s m #[(.int 3)] below meth c s₁ [] 0 0 := Stand.of_body Bd
  have e0 : s₁.heap = h0 := by rw [← hh, Bd.state]; rfl
  have N0 := Fr.nil n0
  obtain ⟨S0, hS0⟩ : ∃ z, z = s₁.setTop (entryFrame m #[(.int 3)] 1) := ⟨_, rfl⟩
  have pre0 : own_Go p e below S0 (s₁.setTop (mkF m 0 #[.val (.int 3)] [])) := fun t k => by rw [hS0]; exact castTop (ef_nfor_3 m ) k
  have fin : ∀ t, Steps p.tables e below S0 t → Steps p.tables e below (s₁.setTop (entryFrame m #[(.int 3)] 1)) t := fun t k => by rw [hS0] at k; exact k
  have kc0 : Keep h0 h0 [] := Keep.refl _ _
  have pre1 : own_Go p e below S0 (s₁.setTop (mkF m 1 #[.val (.int 3)] [(.int 3)])) := by
    intro t kt
    refine pre0 t ?_
    refine XS.iloadN X0.here hx rfl (hb hby d18_0) rfl ?_
    exact kt
  obtain ⟨_, _, ⟨T2, L2, k2, n2⟩, -, X2, ⟨Lc2, hQ2, l2, y2, z2⟩, st2⟩ := Jvm.LawKit.callS X0 hx (y := own_m19) hown (mvT hZ (hw _ (own_w 83 rfl))) (mvT hZ (hw _ (own_w 84 rfl))) (mvT hZ (hw _ (own_w 40 rfl))) (mvT hZ (hw _ (own_w 85 rfl))) (by decide) (backOf (W := 0) (rmnlen l Z a0 hw [] (3 : Int32) h0 n0 Z0 (by decide) (by decide)) hZ (hw _ (own_w 85 rfl)) (hw _ (own_w 40 rfl)) (by decide) (by decide)) (g := (mkF m 1 #[.val (.int 3)] [(.int 3)])) rfl (by rw [hml]; rfl) (argsL := [(.int 3)]) (rest := []) (lenOf pd_2 rfl) rfl (by show 2 * 0 + _ ≤ _; exact Nat.le_of_eq rfl) (hb hby d18_1) (fun _ _ => ⟨rfl, e0, (by decide : 0 + 0 ≤ _), (by decide : 0 + 0 ≤ _)⟩)
  dsimp only [Pt.U, Pt.locs, Pt.cells, Pt.slots] at X2 l2 y2 z2 st2 hQ2
  subst l2 y2 z2
  obtain ⟨rfl, Nq2, eq2⟩ := hQ2
  have N2 := Fr.app N0 Nq2
  have pre3 : own_Go p e below S0 (T2.setTop (mkF m 4 #[.val (.int 3)] [(.int (own_nbl (3 : Int32)))])) := by
    intro t kt
    refine pre1 t ?_
    refine st2 _ ?_
    show Steps p.tables e below (T2.setTop (mkF m 4 #[.val (.int 3)] [(.int (own_nbl (3 : Int32)))])) _
    exact kt
  have pre4 : own_Go p e below S0 (T2.setTop (mkF m 4 #[.val (.int 3)] [(.int 6)])) := by
    intro t kt
    refine pre3 t ?_
    rw [(by decide : (own_nbl (3 : Int32)) = (6 : Int32))]
    exact kt
  obtain ⟨T5, h5, k5, X5, e5, E5, A5, st5⟩ := newP X2 hx hZ (hw _ (own_w 16 rfl)) eq2 (g := (mkF m 4 #[.val (.int 3)] [(.int 6)])) rfl (hb hby d18_4) rfl (by decide) (cap := 6) (by decide) (by decide) (by decide) (by decide)
  obtain ⟨b5, g5⟩ : ∃ z, z = h0.size := ⟨_, rfl⟩
  rw [← g5] at A5 st5
  have ge6 : n0 ≤ b5 := Nat.le_trans Z0 (Nat.le_of_eq g5.symm)
  have sz7 : h0.size ≤ b5 := Nat.le_trans kc0.1 (Nat.le_of_eq g5.symm)
  have zs8 : n0 ≤ h5.size := Nat.le_trans Z0 E5.1
  have kc9 : Keep h0 h5 [] := kc0.ext E5
  have V5 : Arv Z h5 b5 k5 .byte (6 : Int32) [(.int 0), (.int 0), (.int 0), (.int 0), (.int 0), (.int 0)] (.int 0) := (Arv.new A5 (by decide)).pad (pad_rep [] (.int 0) 6)
  have pre10 : own_Go p e below S0 (T5.setTop (mkF m 6 #[.val (.int 3)] [(.ref b5)])) := by
    intro t kt
    refine pre4 t ?_
    refine st5 _ ?_
    exact kt
  obtain ⟨fs, hr, hrun, hended, hW, hsame⟩ := X5.leave (v := some (.ref b5)) (fun h => by rw [Bd.returns] at h; cases h)
  refine ⟨_, _, fin _ (pre10 _ ?_), hrun, hended, _, _, rfl, ?_, ⟨_, rfl⟩, hW, hsame.mono (by decide) (by decide)⟩
  · jvm_step X5.here [X5.here.top, hx, (hb hby d18_6), X5.method', Bd.returns, Value.isRef, FieldType.isReference]
    first | (intro acts; rw [hr _ acts rfl rfl rfl]) | rw [hr _ _ rfl rfl rfl]
    exact Steps.refl _
  · show Qnfor_3 Z  h0 n0 _ T5.heap _
    rw [e5]
    exact ⟨b5, k5, rfl, N2, kc9, sz7, V5⟩

theorem ef_putc_0_6 (m : MethodId) (x0 : Addr) (x2 : Int32) : entryFrame m #[(.ref x0), (.int 0), (.int x2)] 3 = mkF m 0 #[.val (.ref x0), .val (.int 0), .val (.int x2)] [] := by first | (simp [entryFrame, mkF, argsToLocals, Value.category]; done) | rfl
def Qputc_0_6 (Z : State) (a1 : Addr) (p3 : Int32) (k1 : ClassId) (u0 : Value) (u1 : Value) (u2 : Value) (u3 : Value) (u4 : Value) (u5 : Value) (h0 : Heap) (n0 : Nat) (v : Option Value) (h : Heap) (L : List Loc) : Prop := v = none ∧ Fr n0 L ∧ Keep h0 h [a1] ∧ Arv Z h a1 k1 .byte (6 : Int32) [(.int (nar .byte ((p3 >>> ((0 : Int32) &&& 31)).toInt8.toInt32))), (.int (nar .byte ((p3 >>> ((8 : Int32) &&& 31)).toInt8.toInt32))), u2, u3, u4, u5] (.int 0)
set_option maxRecDepth 65536 in
set_option maxHeartbeats 40000000 in
theorem rmputc_0_6 (l : Launch) (Z : State) (a0 : Array Value) (hw : ∀ d ∈ tables_1, d.before a0 Z = true) (ws : List Jvm.Cond) (a1 : Addr) (p3 : Int32) (k1 : ClassId) (u0 : Value) (u1 : Value) (u2 : Value) (u3 : Value) (u4 : Value) (u5 : Value) (h0 : Heap) (n0 : Nat) (Z0 : n0 ≤ h0.size) (O0 : Old Z n0 h0) (qU : (own_SU Z)) (g1 : n0 ≤ a1) (V1 : Arv Z h0 a1 k1 .byte (6 : Int32) [u0, u1, u2, u3, u4, u5] (.int 0)) :
    MetFree l own_m20 (head1 (Jvm.Cond.code own_m20 jdk_52_method_4_code 3 none :: ws) (own_r 0 0 0 0)) (fun a U => a = #[(.ref a1), (.int 0), (.int p3)] ∧ Z.Warmed39 U.vm ∧ U.heap = h0) (fun _ _ _ _ _ => True) (fun _ U o U' => ∃ v L, o = .returned v ∧ Qputc_0_6 Z a1 p3 k1 u0 u1 u2 u3 u4 u5 h0 n0 v U'.heap L ∧ FrameEnd U o U' L (own_r 0 0 0 0).cells (own_r 0 0 0 0).slots) := by
  refine MetFree.of_bodySF (plainFor_of_name pn_20) hisR ?_
  intro p e s m args below meth c s₁ Bd hml0 hP hK
  obtain ⟨rfl, hZ, hh⟩ := hP
  have hx := Bd.exec
  have hby := Bd.bytes
  have hml : c.maxLocals = 3 := hml0
  have hown0 := findClass_of_methodNamed Bd.named
  have hown : s.vm.findClass "java/lang/StringUTF16" = some m.cls := hown0
  have hnm := (name_of_methodNamed Bd.named Bd.method).1
  have X0 : Stand p l e (own_r 0 0 0 0) s m #[(.ref a1), (.int 0), (.int p3)] below meth c s₁ [] 0 0 := Stand.of_body Bd
  have e0 : s₁.heap = h0 := by rw [← hh, Bd.state]; rfl
  have N0 := Fr.nil n0
  obtain ⟨S0, hS0⟩ : ∃ z, z = s₁.setTop (entryFrame m #[(.ref a1), (.int 0), (.int p3)] 3) := ⟨_, rfl⟩
  have pre0 : own_Go p e below S0 (s₁.setTop (mkF m 0 #[.val (.ref a1), .val (.int 0), .val (.int p3)] [])) := fun t k => by rw [hS0]; exact castTop (ef_putc_0_6 m a1 p3) k
  have fin : ∀ t, Steps p.tables e below S0 t → Steps p.tables e below (s₁.setTop (entryFrame m #[(.ref a1), (.int 0), (.int p3)] 3)) t := fun t k => by rw [hS0] at k; exact k
  have kc0 : Keep h0 h0 [a1] := Keep.refl _ _
  obtain ⟨T1, X1, e1, st1⟩ := getS2 X0 hx hZ hown (host := "") (Or.inl (hw _ (own_w 90 rfl))) Via.refl e0 (qU.1.ext O0.2) (g := (mkF m 0 #[.val (.ref a1), .val (.int 0), .val (.int p3)] [])) rfl (hb hby d20_0)
  have pre2 : own_Go p e below S0 (T1.setTop (mkF m 38 #[.val (.ref a1), .val (.int 1), .val (.int p3)] [(.int p3), (.int 0), (.ref a1)])) := by
    intro t kt
    refine pre0 t ?_
    refine st1 _ ?_
    refine XS.ifYes X1.here hx rfl (pc0 := 3) (pc' := 28) rfl (hb hby d20_3) rfl ((if0 _ _).trans (feq (by decide : ¬ ((1 : Int32) = (0 : Int32)))).2) (by decide) (by decide) ?_
    refine XS.iloadN X1.here hx rfl (hb hby d20_28) rfl ?_
    refine XS.iconst X1.here hx rfl (hb hby d20_29) ?_
    refine XS.ishl X1.here hx rfl (hb hby d20_30) rfl ?_
    refine XS.istoreN X1.here hx rfl (hb hby d20_31) rfl (l' := #[.val (.ref a1), .val (.int 0), .val (.int p3)]) rfl ?_
    show Steps p.tables e below (T1.setTop (mkF m 32 #[.val (.ref a1), .val (.int 0), .val (.int p3)] [])) _
    refine XS.aloadN X1.here hx rfl (hb hby d20_32) rfl rfl ?_
    refine XS.iloadN X1.here hx rfl (hb hby d20_33) rfl ?_
    refine XS.iinc X1.here hx rfl (hb hby d20_34) rfl (l' := #[.val (.ref a1), .val (.int 1), .val (.int p3)]) rfl ?_
    refine XS.iloadN X1.here hx rfl (hb hby d20_37) rfl ?_
    exact kt
  obtain ⟨T3, X3, e3, st3⟩ := getS2 X1 hx hZ hown (host := "") (Or.inl (hw _ (own_w 91 rfl))) Via.refl e1 (qU.2.1.ext O0.2) (g := (mkF m 38 #[.val (.ref a1), .val (.int 1), .val (.int p3)] [(.int p3), (.int 0), (.ref a1)])) rfl (hb hby d20_38)
  have pre4 : own_Go p e below S0 (T3.setTop (mkF m 43 #[.val (.ref a1), .val (.int 1), .val (.int p3)] [(.int ((p3 >>> ((0 : Int32) &&& 31)).toInt8.toInt32)), (.int 0), (.ref a1)])) := by
    intro t kt
    refine pre2 t ?_
    refine st3 _ ?_
    refine XS.ishr X3.here hx rfl (hb hby d20_41) rfl ?_
    refine XS.i2b X3.here hx rfl (hb hby d20_42) rfl ?_
    exact kt
  obtain ⟨cl5, Ar5, q5, Sz5, Ng5, Hs5, Gt5⟩ := id V1
  have hin5 : ¬ ((0 : Int32) < 0 ∨ cl5.slots.size ≤ ((0 : Int32)).toNatClampNeg) := inb_of Sz5 ⟨by decide, by decide⟩
  obtain ⟨T5, h5, X5, e5, W5, st5⟩ := stB X3 hx hZ e3 Ar5 (j := (0 : Int32)) hin5 (g := (mkF m 43 #[.val (.ref a1), .val (.int 1), .val (.int p3)] [(.int ((p3 >>> ((0 : Int32) &&& 31)).toInt8.toInt32)), (.int 0), (.ref a1)])) rfl rfl (hb hby d20_43)
  have N5 := Fr.snoc X5 N0 g1
  have zs6 : n0 ≤ h5.size := Nat.le_trans Z0 (Keep.of_wr W5).1
  have kc7 : Keep h0 h5 [a1] := kc0.wr W5 (Or.inl (List.mem_of_getElem? (i := 0) rfl))
  have V5 : Arv Z h5 a1 k1 .byte (6 : Int32) [(.int (nar .byte ((p3 >>> ((0 : Int32) &&& 31)).toInt8.toInt32))), u1, u2, u3, u4, u5] (.int 0) := Arv.set Ar5 q5 Sz5 Ng5 Hs5 Gt5 (fits_nar_byte _) W5 0 rfl (Nat.le_of_ble_eq_true rfl)
  have pre8 : own_Go p e below S0 (T5.setTop (mkF m 47 #[.val (.ref a1), .val (.int 1), .val (.int p3)] [(.int p3), (.int 1), (.ref a1)])) := by
    intro t kt
    refine pre4 t ?_
    refine st5 _ ?_
    refine XS.aloadN X5.here hx rfl (hb hby d20_44) rfl rfl ?_
    refine XS.iloadN X5.here hx rfl (hb hby d20_45) rfl ?_
    refine XS.iloadN X5.here hx rfl (hb hby d20_46) rfl ?_
    exact kt
  have f9 : Old Z n0 h5 := (O0.wr W5 g1)
  obtain ⟨T10, X10, e10, st10⟩ := getS2 X5 hx hZ hown (host := "") (Or.inl (hw _ (own_w 92 rfl))) Via.refl e5 (qU.2.2.ext f9.2) (g := (mkF m 47 #[.val (.ref a1), .val (.int 1), .val (.int p3)] [(.int p3), (.int 1), (.ref a1)])) rfl (hb hby d20_47)
  have pre11 : own_Go p e below S0 (T10.setTop (mkF m 52 #[.val (.ref a1), .val (.int 1), .val (.int p3)] [(.int ((p3 >>> ((8 : Int32) &&& 31)).toInt8.toInt32)), (.int 1), (.ref a1)])) := by
    intro t kt
    refine pre8 t ?_
    refine st10 _ ?_
    refine XS.ishr X10.here hx rfl (hb hby d20_50) rfl ?_
    refine XS.i2b X10.here hx rfl (hb hby d20_51) rfl ?_
    exact kt
  obtain ⟨cl12, Ar12, q12, Sz12, Ng12, Hs12, Gt12⟩ := id V5
  have hin12 : ¬ ((1 : Int32) < 0 ∨ cl12.slots.size ≤ ((1 : Int32)).toNatClampNeg) := inb_of Sz12 ⟨by decide, by decide⟩
  obtain ⟨T12, h12, X12, e12, W12, st12⟩ := stB X10 hx hZ e10 Ar12 (j := (1 : Int32)) hin12 (g := (mkF m 52 #[.val (.ref a1), .val (.int 1), .val (.int p3)] [(.int ((p3 >>> ((8 : Int32) &&& 31)).toInt8.toInt32)), (.int 1), (.ref a1)])) rfl rfl (hb hby d20_52)
  have N12 := Fr.snoc X12 N5 g1
  have zs13 : n0 ≤ h12.size := Nat.le_trans zs6 (Keep.of_wr W12).1
  have kc14 : Keep h0 h12 [a1] := kc7.wr W12 (Or.inl (List.mem_of_getElem? (i := 0) rfl))
  have V12 : Arv Z h12 a1 k1 .byte (6 : Int32) [(.int (nar .byte ((p3 >>> ((0 : Int32) &&& 31)).toInt8.toInt32))), (.int (nar .byte ((p3 >>> ((8 : Int32) &&& 31)).toInt8.toInt32))), u2, u3, u4, u5] (.int 0) := Arv.set Ar12 q12 Sz12 Ng12 Hs12 Gt12 (fits_nar_byte _) W12 1 rfl (Nat.le_of_ble_eq_true rfl)
  have pre15 : own_Go p e below S0 (T12.setTop (mkF m 53 #[.val (.ref a1), .val (.int 1), .val (.int p3)] [])) := by
    intro t kt
    refine pre11 t ?_
    refine st12 _ ?_
    exact kt
  obtain ⟨fs, hr, hrun, hended, hW, hsame⟩ := X12.leave (v := none) (fun _ => rfl)
  refine ⟨_, _, fin _ (pre15 _ ?_), hrun, hended, _, _, rfl, ?_, ⟨_, rfl⟩, hW, hsame.mono (by decide) (by decide)⟩
  · exact X12.returnOut hx Bd.returns (hb hby d20_53) hr
  · show Qputc_0_6 Z a1 p3 k1 u0 u1 u2 u3 u4 u5 h0 n0 _ T12.heap _
    rw [e12]
    exact ⟨rfl, N12, kc14, V12⟩

theorem ef_putc_1_6 (m : MethodId) (x0 : Addr) (x2 : Int32) : entryFrame m #[(.ref x0), (.int 1), (.int x2)] 3 = mkF m 0 #[.val (.ref x0), .val (.int 1), .val (.int x2)] [] := by first | (simp [entryFrame, mkF, argsToLocals, Value.category]; done) | rfl
def Qputc_1_6 (Z : State) (a1 : Addr) (p3 : Int32) (k1 : ClassId) (u0 : Value) (u1 : Value) (u2 : Value) (u3 : Value) (u4 : Value) (u5 : Value) (h0 : Heap) (n0 : Nat) (v : Option Value) (h : Heap) (L : List Loc) : Prop := v = none ∧ Fr n0 L ∧ Keep h0 h [a1] ∧ Arv Z h a1 k1 .byte (6 : Int32) [u0, u1, (.int (nar .byte ((p3 >>> ((0 : Int32) &&& 31)).toInt8.toInt32))), (.int (nar .byte ((p3 >>> ((8 : Int32) &&& 31)).toInt8.toInt32))), u4, u5] (.int 0)
set_option maxRecDepth 65536 in
set_option maxHeartbeats 40000000 in
theorem rmputc_1_6 (l : Launch) (Z : State) (a0 : Array Value) (hw : ∀ d ∈ tables_1, d.before a0 Z = true) (ws : List Jvm.Cond) (a1 : Addr) (p3 : Int32) (k1 : ClassId) (u0 : Value) (u1 : Value) (u2 : Value) (u3 : Value) (u4 : Value) (u5 : Value) (h0 : Heap) (n0 : Nat) (Z0 : n0 ≤ h0.size) (O0 : Old Z n0 h0) (qU : (own_SU Z)) (g1 : n0 ≤ a1) (V1 : Arv Z h0 a1 k1 .byte (6 : Int32) [u0, u1, u2, u3, u4, u5] (.int 0)) :
    MetFree l own_m20 (head1 (Jvm.Cond.code own_m20 jdk_52_method_4_code 3 none :: ws) (own_r 0 0 0 0)) (fun a U => a = #[(.ref a1), (.int 1), (.int p3)] ∧ Z.Warmed39 U.vm ∧ U.heap = h0) (fun _ _ _ _ _ => True) (fun _ U o U' => ∃ v L, o = .returned v ∧ Qputc_1_6 Z a1 p3 k1 u0 u1 u2 u3 u4 u5 h0 n0 v U'.heap L ∧ FrameEnd U o U' L (own_r 0 0 0 0).cells (own_r 0 0 0 0).slots) := by
  refine MetFree.of_bodySF (plainFor_of_name pn_20) hisR ?_
  intro p e s m args below meth c s₁ Bd hml0 hP hK
  obtain ⟨rfl, hZ, hh⟩ := hP
  have hx := Bd.exec
  have hby := Bd.bytes
  have hml : c.maxLocals = 3 := hml0
  have hown0 := findClass_of_methodNamed Bd.named
  have hown : s.vm.findClass "java/lang/StringUTF16" = some m.cls := hown0
  have hnm := (name_of_methodNamed Bd.named Bd.method).1
  have X0 : Stand p l e (own_r 0 0 0 0) s m #[(.ref a1), (.int 1), (.int p3)] below meth c s₁ [] 0 0 := Stand.of_body Bd
  have e0 : s₁.heap = h0 := by rw [← hh, Bd.state]; rfl
  have N0 := Fr.nil n0
  obtain ⟨S0, hS0⟩ : ∃ z, z = s₁.setTop (entryFrame m #[(.ref a1), (.int 1), (.int p3)] 3) := ⟨_, rfl⟩
  have pre0 : own_Go p e below S0 (s₁.setTop (mkF m 0 #[.val (.ref a1), .val (.int 1), .val (.int p3)] [])) := fun t k => by rw [hS0]; exact castTop (ef_putc_1_6 m a1 p3) k
  have fin : ∀ t, Steps p.tables e below S0 t → Steps p.tables e below (s₁.setTop (entryFrame m #[(.ref a1), (.int 1), (.int p3)] 3)) t := fun t k => by rw [hS0] at k; exact k
  have kc0 : Keep h0 h0 [a1] := Keep.refl _ _
  obtain ⟨T1, X1, e1, st1⟩ := getS2 X0 hx hZ hown (host := "") (Or.inl (hw _ (own_w 90 rfl))) Via.refl e0 (qU.1.ext O0.2) (g := (mkF m 0 #[.val (.ref a1), .val (.int 1), .val (.int p3)] [])) rfl (hb hby d20_0)
  have pre2 : own_Go p e below S0 (T1.setTop (mkF m 38 #[.val (.ref a1), .val (.int 3), .val (.int p3)] [(.int p3), (.int 2), (.ref a1)])) := by
    intro t kt
    refine pre0 t ?_
    refine st1 _ ?_
    refine XS.ifYes X1.here hx rfl (pc0 := 3) (pc' := 28) rfl (hb hby d20_3) rfl ((if0 _ _).trans (feq (by decide : ¬ ((1 : Int32) = (0 : Int32)))).2) (by decide) (by decide) ?_
    refine XS.iloadN X1.here hx rfl (hb hby d20_28) rfl ?_
    refine XS.iconst X1.here hx rfl (hb hby d20_29) ?_
    refine XS.ishl X1.here hx rfl (hb hby d20_30) rfl ?_
    refine XS.istoreN X1.here hx rfl (hb hby d20_31) rfl (l' := #[.val (.ref a1), .val (.int 2), .val (.int p3)]) rfl ?_
    show Steps p.tables e below (T1.setTop (mkF m 32 #[.val (.ref a1), .val (.int 2), .val (.int p3)] [])) _
    refine XS.aloadN X1.here hx rfl (hb hby d20_32) rfl rfl ?_
    refine XS.iloadN X1.here hx rfl (hb hby d20_33) rfl ?_
    refine XS.iinc X1.here hx rfl (hb hby d20_34) rfl (l' := #[.val (.ref a1), .val (.int 3), .val (.int p3)]) rfl ?_
    refine XS.iloadN X1.here hx rfl (hb hby d20_37) rfl ?_
    exact kt
  obtain ⟨T3, X3, e3, st3⟩ := getS2 X1 hx hZ hown (host := "") (Or.inl (hw _ (own_w 91 rfl))) Via.refl e1 (qU.2.1.ext O0.2) (g := (mkF m 38 #[.val (.ref a1), .val (.int 3), .val (.int p3)] [(.int p3), (.int 2), (.ref a1)])) rfl (hb hby d20_38)
  have pre4 : own_Go p e below S0 (T3.setTop (mkF m 43 #[.val (.ref a1), .val (.int 3), .val (.int p3)] [(.int ((p3 >>> ((0 : Int32) &&& 31)).toInt8.toInt32)), (.int 2), (.ref a1)])) := by
    intro t kt
    refine pre2 t ?_
    refine st3 _ ?_
    refine XS.ishr X3.here hx rfl (hb hby d20_41) rfl ?_
    refine XS.i2b X3.here hx rfl (hb hby d20_42) rfl ?_
    exact kt
  obtain ⟨cl5, Ar5, q5, Sz5, Ng5, Hs5, Gt5⟩ := id V1
  have hin5 : ¬ ((2 : Int32) < 0 ∨ cl5.slots.size ≤ ((2 : Int32)).toNatClampNeg) := inb_of Sz5 ⟨by decide, by decide⟩
  obtain ⟨T5, h5, X5, e5, W5, st5⟩ := stB X3 hx hZ e3 Ar5 (j := (2 : Int32)) hin5 (g := (mkF m 43 #[.val (.ref a1), .val (.int 3), .val (.int p3)] [(.int ((p3 >>> ((0 : Int32) &&& 31)).toInt8.toInt32)), (.int 2), (.ref a1)])) rfl rfl (hb hby d20_43)
  have N5 := Fr.snoc X5 N0 g1
  have zs6 : n0 ≤ h5.size := Nat.le_trans Z0 (Keep.of_wr W5).1
  have kc7 : Keep h0 h5 [a1] := kc0.wr W5 (Or.inl (List.mem_of_getElem? (i := 0) rfl))
  have V5 : Arv Z h5 a1 k1 .byte (6 : Int32) [u0, u1, (.int (nar .byte ((p3 >>> ((0 : Int32) &&& 31)).toInt8.toInt32))), u3, u4, u5] (.int 0) := Arv.set Ar5 q5 Sz5 Ng5 Hs5 Gt5 (fits_nar_byte _) W5 2 rfl (Nat.le_of_ble_eq_true rfl)
  have pre8 : own_Go p e below S0 (T5.setTop (mkF m 47 #[.val (.ref a1), .val (.int 3), .val (.int p3)] [(.int p3), (.int 3), (.ref a1)])) := by
    intro t kt
    refine pre4 t ?_
    refine st5 _ ?_
    refine XS.aloadN X5.here hx rfl (hb hby d20_44) rfl rfl ?_
    refine XS.iloadN X5.here hx rfl (hb hby d20_45) rfl ?_
    refine XS.iloadN X5.here hx rfl (hb hby d20_46) rfl ?_
    exact kt
  have f9 : Old Z n0 h5 := (O0.wr W5 g1)
  obtain ⟨T10, X10, e10, st10⟩ := getS2 X5 hx hZ hown (host := "") (Or.inl (hw _ (own_w 92 rfl))) Via.refl e5 (qU.2.2.ext f9.2) (g := (mkF m 47 #[.val (.ref a1), .val (.int 3), .val (.int p3)] [(.int p3), (.int 3), (.ref a1)])) rfl (hb hby d20_47)
  have pre11 : own_Go p e below S0 (T10.setTop (mkF m 52 #[.val (.ref a1), .val (.int 3), .val (.int p3)] [(.int ((p3 >>> ((8 : Int32) &&& 31)).toInt8.toInt32)), (.int 3), (.ref a1)])) := by
    intro t kt
    refine pre8 t ?_
    refine st10 _ ?_
    refine XS.ishr X10.here hx rfl (hb hby d20_50) rfl ?_
    refine XS.i2b X10.here hx rfl (hb hby d20_51) rfl ?_
    exact kt
  obtain ⟨cl12, Ar12, q12, Sz12, Ng12, Hs12, Gt12⟩ := id V5
  have hin12 : ¬ ((3 : Int32) < 0 ∨ cl12.slots.size ≤ ((3 : Int32)).toNatClampNeg) := inb_of Sz12 ⟨by decide, by decide⟩
  obtain ⟨T12, h12, X12, e12, W12, st12⟩ := stB X10 hx hZ e10 Ar12 (j := (3 : Int32)) hin12 (g := (mkF m 52 #[.val (.ref a1), .val (.int 3), .val (.int p3)] [(.int ((p3 >>> ((8 : Int32) &&& 31)).toInt8.toInt32)), (.int 3), (.ref a1)])) rfl rfl (hb hby d20_52)
  have N12 := Fr.snoc X12 N5 g1
  have zs13 : n0 ≤ h12.size := Nat.le_trans zs6 (Keep.of_wr W12).1
  have kc14 : Keep h0 h12 [a1] := kc7.wr W12 (Or.inl (List.mem_of_getElem? (i := 0) rfl))
  have V12 : Arv Z h12 a1 k1 .byte (6 : Int32) [u0, u1, (.int (nar .byte ((p3 >>> ((0 : Int32) &&& 31)).toInt8.toInt32))), (.int (nar .byte ((p3 >>> ((8 : Int32) &&& 31)).toInt8.toInt32))), u4, u5] (.int 0) := Arv.set Ar12 q12 Sz12 Ng12 Hs12 Gt12 (fits_nar_byte _) W12 3 rfl (Nat.le_of_ble_eq_true rfl)
  have pre15 : own_Go p e below S0 (T12.setTop (mkF m 53 #[.val (.ref a1), .val (.int 3), .val (.int p3)] [])) := by
    intro t kt
    refine pre11 t ?_
    refine st12 _ ?_
    exact kt
  obtain ⟨fs, hr, hrun, hended, hW, hsame⟩ := X12.leave (v := none) (fun _ => rfl)
  refine ⟨_, _, fin _ (pre15 _ ?_), hrun, hended, _, _, rfl, ?_, ⟨_, rfl⟩, hW, hsame.mono (by decide) (by decide)⟩
  · exact X12.returnOut hx Bd.returns (hb hby d20_53) hr
  · show Qputc_1_6 Z a1 p3 k1 u0 u1 u2 u3 u4 u5 h0 n0 _ T12.heap _
    rw [e12]
    exact ⟨rfl, N12, kc14, V12⟩

theorem ef_putc_2_6 (m : MethodId) (x0 : Addr) (x2 : Int32) : entryFrame m #[(.ref x0), (.int 2), (.int x2)] 3 = mkF m 0 #[.val (.ref x0), .val (.int 2), .val (.int x2)] [] := by first | (simp [entryFrame, mkF, argsToLocals, Value.category]; done) | rfl
def Qputc_2_6 (Z : State) (a1 : Addr) (p3 : Int32) (k1 : ClassId) (u0 : Value) (u1 : Value) (u2 : Value) (u3 : Value) (u4 : Value) (u5 : Value) (h0 : Heap) (n0 : Nat) (v : Option Value) (h : Heap) (L : List Loc) : Prop := v = none ∧ Fr n0 L ∧ Keep h0 h [a1] ∧ Arv Z h a1 k1 .byte (6 : Int32) [u0, u1, u2, u3, (.int (nar .byte ((p3 >>> ((0 : Int32) &&& 31)).toInt8.toInt32))), (.int (nar .byte ((p3 >>> ((8 : Int32) &&& 31)).toInt8.toInt32)))] (.int 0)
set_option maxRecDepth 65536 in
set_option maxHeartbeats 40000000 in
theorem rmputc_2_6 (l : Launch) (Z : State) (a0 : Array Value) (hw : ∀ d ∈ tables_1, d.before a0 Z = true) (ws : List Jvm.Cond) (a1 : Addr) (p3 : Int32) (k1 : ClassId) (u0 : Value) (u1 : Value) (u2 : Value) (u3 : Value) (u4 : Value) (u5 : Value) (h0 : Heap) (n0 : Nat) (Z0 : n0 ≤ h0.size) (O0 : Old Z n0 h0) (qU : (own_SU Z)) (g1 : n0 ≤ a1) (V1 : Arv Z h0 a1 k1 .byte (6 : Int32) [u0, u1, u2, u3, u4, u5] (.int 0)) :
    MetFree l own_m20 (head1 (Jvm.Cond.code own_m20 jdk_52_method_4_code 3 none :: ws) (own_r 0 0 0 0)) (fun a U => a = #[(.ref a1), (.int 2), (.int p3)] ∧ Z.Warmed39 U.vm ∧ U.heap = h0) (fun _ _ _ _ _ => True) (fun _ U o U' => ∃ v L, o = .returned v ∧ Qputc_2_6 Z a1 p3 k1 u0 u1 u2 u3 u4 u5 h0 n0 v U'.heap L ∧ FrameEnd U o U' L (own_r 0 0 0 0).cells (own_r 0 0 0 0).slots) := by
  refine MetFree.of_bodySF (plainFor_of_name pn_20) hisR ?_
  intro p e s m args below meth c s₁ Bd hml0 hP hK
  obtain ⟨rfl, hZ, hh⟩ := hP
  have hx := Bd.exec
  have hby := Bd.bytes
  have hml : c.maxLocals = 3 := hml0
  have hown0 := findClass_of_methodNamed Bd.named
  have hown : s.vm.findClass "java/lang/StringUTF16" = some m.cls := hown0
  have hnm := (name_of_methodNamed Bd.named Bd.method).1
  have X0 : Stand p l e (own_r 0 0 0 0) s m #[(.ref a1), (.int 2), (.int p3)] below meth c s₁ [] 0 0 := Stand.of_body Bd
  have e0 : s₁.heap = h0 := by rw [← hh, Bd.state]; rfl
  have N0 := Fr.nil n0
  obtain ⟨S0, hS0⟩ : ∃ z, z = s₁.setTop (entryFrame m #[(.ref a1), (.int 2), (.int p3)] 3) := ⟨_, rfl⟩
  have pre0 : own_Go p e below S0 (s₁.setTop (mkF m 0 #[.val (.ref a1), .val (.int 2), .val (.int p3)] [])) := fun t k => by rw [hS0]; exact castTop (ef_putc_2_6 m a1 p3) k
  have fin : ∀ t, Steps p.tables e below S0 t → Steps p.tables e below (s₁.setTop (entryFrame m #[(.ref a1), (.int 2), (.int p3)] 3)) t := fun t k => by rw [hS0] at k; exact k
  have kc0 : Keep h0 h0 [a1] := Keep.refl _ _
  obtain ⟨T1, X1, e1, st1⟩ := getS2 X0 hx hZ hown (host := "") (Or.inl (hw _ (own_w 90 rfl))) Via.refl e0 (qU.1.ext O0.2) (g := (mkF m 0 #[.val (.ref a1), .val (.int 2), .val (.int p3)] [])) rfl (hb hby d20_0)
  have pre2 : own_Go p e below S0 (T1.setTop (mkF m 38 #[.val (.ref a1), .val (.int 5), .val (.int p3)] [(.int p3), (.int 4), (.ref a1)])) := by
    intro t kt
    refine pre0 t ?_
    refine st1 _ ?_
    refine XS.ifYes X1.here hx rfl (pc0 := 3) (pc' := 28) rfl (hb hby d20_3) rfl ((if0 _ _).trans (feq (by decide : ¬ ((1 : Int32) = (0 : Int32)))).2) (by decide) (by decide) ?_
    refine XS.iloadN X1.here hx rfl (hb hby d20_28) rfl ?_
    refine XS.iconst X1.here hx rfl (hb hby d20_29) ?_
    refine XS.ishl X1.here hx rfl (hb hby d20_30) rfl ?_
    refine XS.istoreN X1.here hx rfl (hb hby d20_31) rfl (l' := #[.val (.ref a1), .val (.int 4), .val (.int p3)]) rfl ?_
    show Steps p.tables e below (T1.setTop (mkF m 32 #[.val (.ref a1), .val (.int 4), .val (.int p3)] [])) _
    refine XS.aloadN X1.here hx rfl (hb hby d20_32) rfl rfl ?_
    refine XS.iloadN X1.here hx rfl (hb hby d20_33) rfl ?_
    refine XS.iinc X1.here hx rfl (hb hby d20_34) rfl (l' := #[.val (.ref a1), .val (.int 5), .val (.int p3)]) rfl ?_
    refine XS.iloadN X1.here hx rfl (hb hby d20_37) rfl ?_
    exact kt
  obtain ⟨T3, X3, e3, st3⟩ := getS2 X1 hx hZ hown (host := "") (Or.inl (hw _ (own_w 91 rfl))) Via.refl e1 (qU.2.1.ext O0.2) (g := (mkF m 38 #[.val (.ref a1), .val (.int 5), .val (.int p3)] [(.int p3), (.int 4), (.ref a1)])) rfl (hb hby d20_38)
  have pre4 : own_Go p e below S0 (T3.setTop (mkF m 43 #[.val (.ref a1), .val (.int 5), .val (.int p3)] [(.int ((p3 >>> ((0 : Int32) &&& 31)).toInt8.toInt32)), (.int 4), (.ref a1)])) := by
    intro t kt
    refine pre2 t ?_
    refine st3 _ ?_
    refine XS.ishr X3.here hx rfl (hb hby d20_41) rfl ?_
    refine XS.i2b X3.here hx rfl (hb hby d20_42) rfl ?_
    exact kt
  obtain ⟨cl5, Ar5, q5, Sz5, Ng5, Hs5, Gt5⟩ := id V1
  have hin5 : ¬ ((4 : Int32) < 0 ∨ cl5.slots.size ≤ ((4 : Int32)).toNatClampNeg) := inb_of Sz5 ⟨by decide, by decide⟩
  obtain ⟨T5, h5, X5, e5, W5, st5⟩ := stB X3 hx hZ e3 Ar5 (j := (4 : Int32)) hin5 (g := (mkF m 43 #[.val (.ref a1), .val (.int 5), .val (.int p3)] [(.int ((p3 >>> ((0 : Int32) &&& 31)).toInt8.toInt32)), (.int 4), (.ref a1)])) rfl rfl (hb hby d20_43)
  have N5 := Fr.snoc X5 N0 g1
  have zs6 : n0 ≤ h5.size := Nat.le_trans Z0 (Keep.of_wr W5).1
  have kc7 : Keep h0 h5 [a1] := kc0.wr W5 (Or.inl (List.mem_of_getElem? (i := 0) rfl))
  have V5 : Arv Z h5 a1 k1 .byte (6 : Int32) [u0, u1, u2, u3, (.int (nar .byte ((p3 >>> ((0 : Int32) &&& 31)).toInt8.toInt32))), u5] (.int 0) := Arv.set Ar5 q5 Sz5 Ng5 Hs5 Gt5 (fits_nar_byte _) W5 4 rfl (Nat.le_of_ble_eq_true rfl)
  have pre8 : own_Go p e below S0 (T5.setTop (mkF m 47 #[.val (.ref a1), .val (.int 5), .val (.int p3)] [(.int p3), (.int 5), (.ref a1)])) := by
    intro t kt
    refine pre4 t ?_
    refine st5 _ ?_
    refine XS.aloadN X5.here hx rfl (hb hby d20_44) rfl rfl ?_
    refine XS.iloadN X5.here hx rfl (hb hby d20_45) rfl ?_
    refine XS.iloadN X5.here hx rfl (hb hby d20_46) rfl ?_
    exact kt
  have f9 : Old Z n0 h5 := (O0.wr W5 g1)
  obtain ⟨T10, X10, e10, st10⟩ := getS2 X5 hx hZ hown (host := "") (Or.inl (hw _ (own_w 92 rfl))) Via.refl e5 (qU.2.2.ext f9.2) (g := (mkF m 47 #[.val (.ref a1), .val (.int 5), .val (.int p3)] [(.int p3), (.int 5), (.ref a1)])) rfl (hb hby d20_47)
  have pre11 : own_Go p e below S0 (T10.setTop (mkF m 52 #[.val (.ref a1), .val (.int 5), .val (.int p3)] [(.int ((p3 >>> ((8 : Int32) &&& 31)).toInt8.toInt32)), (.int 5), (.ref a1)])) := by
    intro t kt
    refine pre8 t ?_
    refine st10 _ ?_
    refine XS.ishr X10.here hx rfl (hb hby d20_50) rfl ?_
    refine XS.i2b X10.here hx rfl (hb hby d20_51) rfl ?_
    exact kt
  obtain ⟨cl12, Ar12, q12, Sz12, Ng12, Hs12, Gt12⟩ := id V5
  have hin12 : ¬ ((5 : Int32) < 0 ∨ cl12.slots.size ≤ ((5 : Int32)).toNatClampNeg) := inb_of Sz12 ⟨by decide, by decide⟩
  obtain ⟨T12, h12, X12, e12, W12, st12⟩ := stB X10 hx hZ e10 Ar12 (j := (5 : Int32)) hin12 (g := (mkF m 52 #[.val (.ref a1), .val (.int 5), .val (.int p3)] [(.int ((p3 >>> ((8 : Int32) &&& 31)).toInt8.toInt32)), (.int 5), (.ref a1)])) rfl rfl (hb hby d20_52)
  have N12 := Fr.snoc X12 N5 g1
  have zs13 : n0 ≤ h12.size := Nat.le_trans zs6 (Keep.of_wr W12).1
  have kc14 : Keep h0 h12 [a1] := kc7.wr W12 (Or.inl (List.mem_of_getElem? (i := 0) rfl))
  have V12 : Arv Z h12 a1 k1 .byte (6 : Int32) [u0, u1, u2, u3, (.int (nar .byte ((p3 >>> ((0 : Int32) &&& 31)).toInt8.toInt32))), (.int (nar .byte ((p3 >>> ((8 : Int32) &&& 31)).toInt8.toInt32)))] (.int 0) := Arv.set Ar12 q12 Sz12 Ng12 Hs12 Gt12 (fits_nar_byte _) W12 5 rfl (Nat.le_of_ble_eq_true rfl)
  have pre15 : own_Go p e below S0 (T12.setTop (mkF m 53 #[.val (.ref a1), .val (.int 5), .val (.int p3)] [])) := by
    intro t kt
    refine pre11 t ?_
    refine st12 _ ?_
    exact kt
  obtain ⟨fs, hr, hrun, hended, hW, hsame⟩ := X12.leave (v := none) (fun _ => rfl)
  refine ⟨_, _, fin _ (pre15 _ ?_), hrun, hended, _, _, rfl, ?_, ⟨_, rfl⟩, hW, hsame.mono (by decide) (by decide)⟩
  · exact X12.returnOut hx Bd.returns (hb hby d20_53) hr
  · show Qputc_2_6 Z a1 p3 k1 u0 u1 u2 u3 u4 u5 h0 n0 _ T12.heap _
    rw [e12]
    exact ⟨rfl, N12, kc14, V12⟩

theorem ef_toB_3 (m : MethodId) (x0 : Addr) : entryFrame m #[(.ref x0), (.int 0), (.int 3)] 5 = mkF m 0 #[.val (.ref x0), .val (.int 0), .val (.int 3), .unset, .unset] [] := by first | (simp [entryFrame, mkF, argsToLocals, Value.category]; done) | rfl
def QtoB_3 (Z : State) (a1 : Addr) (kc : ClassId) (c0 : Int32) (c1 : Int32) (c2 : Int32) (h0 : Heap) (n0 : Nat) (v : Option Value) (h : Heap) (L : List Loc) : Prop := ∃ b : Addr, ∃ kb : ClassId, v = (some (.ref b)) ∧ Fr n0 L ∧ Keep h0 h [] ∧ h0.size ≤ b ∧ Arv Z h b kb .byte (6 : Int32) [(.int (nar .byte ((c0 >>> ((0 : Int32) &&& 31)).toInt8.toInt32))), (.int (nar .byte ((c0 >>> ((8 : Int32) &&& 31)).toInt8.toInt32))), (.int (nar .byte ((c1 >>> ((0 : Int32) &&& 31)).toInt8.toInt32))), (.int (nar .byte ((c1 >>> ((8 : Int32) &&& 31)).toInt8.toInt32))), (.int (nar .byte ((c2 >>> ((0 : Int32) &&& 31)).toInt8.toInt32))), (.int (nar .byte ((c2 >>> ((8 : Int32) &&& 31)).toInt8.toInt32)))] (.int 0)
set_option maxRecDepth 65536 in
set_option maxHeartbeats 40000000 in
theorem rmtoB_3 (l : Launch) (Z : State) (a0 : Array Value) (hw : ∀ d ∈ tables_1, d.before a0 Z = true) (ws : List Jvm.Cond) (a1 : Addr) (kc : ClassId) (c0 : Int32) (c1 : Int32) (c2 : Int32) (h0 : Heap) (n0 : Nat) (Z0 : n0 ≤ h0.size) (O0 : Old Z n0 h0) (qU : (own_SU Z)) (VC : Arv Z h0 a1 kc .char (3 : Int32) [(.int c0), (.int c1), (.int c2)] (.int 0)) :
    MetFree l own_m21 (head1 (Jvm.Cond.code own_m21 jdk_52_method_14_code 5 (some (.array .byte)) :: ws) (own_r 2 1 6 24)) (fun a U => a = #[(.ref a1), (.int 0), (.int 3)] ∧ Z.Warmed39 U.vm ∧ U.heap = h0) (fun _ _ _ _ _ => True) (fun _ U o U' => ∃ v L, o = .returned v ∧ QtoB_3 Z a1 kc c0 c1 c2 h0 n0 v U'.heap L ∧ FrameEnd U o U' L (own_r 2 1 6 24).cells (own_r 2 1 6 24).slots) := by
  refine MetFree.of_bodySF (plainFor_of_name pn_17) hisR ?_
  intro p e s m args below meth c s₁ Bd hml0 hP hK
  obtain ⟨rfl, hZ, hh⟩ := hP
  have hx := Bd.exec
  have hby := Bd.bytes
  have hml : c.maxLocals = 5 := hml0
  have hown0 := findClass_of_methodNamed Bd.named
  have hown : s.vm.findClass "java/lang/StringUTF16" = some m.cls := hown0
  have hnm := (name_of_methodNamed Bd.named Bd.method).1
  have X0 : Stand p l e (own_r 2 1 6 24) s m #[(.ref a1), (.int 0), (.int 3)] below meth c s₁ [] 0 0 := Stand.of_body Bd
  have e0 : s₁.heap = h0 := by rw [← hh, Bd.state]; rfl
  have N0 := Fr.nil n0
  obtain ⟨S0, hS0⟩ : ∃ z, z = s₁.setTop (entryFrame m #[(.ref a1), (.int 0), (.int 3)] 5) := ⟨_, rfl⟩
  have pre0 : own_Go p e below S0 (s₁.setTop (mkF m 0 #[.val (.ref a1), .val (.int 0), .val (.int 3), .unset, .unset] [])) := fun t k => by rw [hS0]; exact castTop (ef_toB_3 m a1) k
  have fin : ∀ t, Steps p.tables e below S0 t → Steps p.tables e below (s₁.setTop (entryFrame m #[(.ref a1), (.int 0), (.int 3)] 5)) t := fun t k => by rw [hS0] at k; exact k
  have kc0 : Keep h0 h0 [] := Keep.refl _ _
  have pre1 : own_Go p e below S0 (s₁.setTop (mkF m 1 #[.val (.ref a1), .val (.int 0), .val (.int 3), .unset, .unset] [(.int 3)])) := by
    intro t kt
    refine pre0 t ?_
    refine XS.iloadN X0.here hx rfl (hb hby d17_0) rfl ?_
    exact kt
  obtain ⟨_, _, ⟨T2, L2, k2, n2⟩, -, X2, ⟨Lc2, hQ2, l2, y2, z2⟩, st2⟩ := Jvm.LawKit.callS X0 hx (y := own_m18) hown (mvT hZ (hw _ (own_w 80 rfl))) (mvT hZ (hw _ (own_w 81 rfl))) (mvT hZ (hw _ (own_w 40 rfl))) (mvT hZ (hw _ (own_w 82 rfl))) (by decide) (backOf (W := 0) (rmnfor_3 l Z a0 hw []  h0 n0 Z0 ) hZ (hw _ (own_w 82 rfl)) (hw _ (own_w 40 rfl)) (by decide) (by decide)) (g := (mkF m 1 #[.val (.ref a1), .val (.int 0), .val (.int 3), .unset, .unset] [(.int 3)])) rfl (by rw [hml]; rfl) (argsL := [(.int 3)]) (rest := []) (lenOf pd_3 rfl) rfl (by show 2 * 0 + _ ≤ _; exact Nat.le_of_eq rfl) (hb hby d17_1) (fun _ _ => ⟨rfl, e0, (by decide : 0 + 1 ≤ _), (by decide : 0 + 6 ≤ _)⟩)
  dsimp only [Pt.U, Pt.locs, Pt.cells, Pt.slots] at X2 l2 y2 z2 st2 hQ2
  subst l2 y2 z2
  obtain ⟨b3, kb4, rfl, Nq2, K2, g5, g6⟩ := hQ2
  have N2 := Fr.app N0 Nq2
  have ne7 : a1 ≠ b3 := Nat.ne_of_lt (Nat.lt_of_lt_of_le VC.lt g5)
  have ge8 : n0 ≤ b3 := Nat.le_trans Z0 g5
  have sz9 : h0.size ≤ b3 := Nat.le_trans kc0.1 g5
  have zs10 : n0 ≤ T2.heap.size := Nat.le_trans Z0 K2.1
  have kc11 : Keep h0 T2.heap [] := kc0.trans K2 all0
  have pre12 : own_Go p e below S0 (T2.setTop (mkF m 19 #[.val (.ref a1), .val (.int 0), .val (.int 3), .val (.ref b3), .val (.int 0)] [(.int 0), (.ref a1), (.int 0), (.ref b3)])) := by
    intro t kt
    refine pre1 t ?_
    refine st2 _ ?_
    show Steps p.tables e below (T2.setTop (mkF m 4 #[.val (.ref a1), .val (.int 0), .val (.int 3), .unset, .unset] [(.ref b3)])) _
    refine XS.astoreN X2.here hx rfl (hb hby d17_4) rfl rfl (l' := #[.val (.ref a1), .val (.int 0), .val (.int 3), .val (.ref b3), .unset]) rfl ?_
    refine XS.iconst X2.here hx rfl (hb hby d17_5) ?_
    refine XS.istore X2.here hx rfl (hb hby d17_6) rfl (l' := #[.val (.ref a1), .val (.int 0), .val (.int 3), .val (.ref b3), .val (.int 0)]) rfl ?_
    refine XS.iload X2.here hx rfl (hb hby d17_8) rfl ?_
    refine XS.iloadN X2.here hx rfl (hb hby d17_10) rfl ?_
    show Steps p.tables e below (T2.setTop (mkF m 11 #[.val (.ref a1), .val (.int 0), .val (.int 3), .val (.ref b3), .val (.int 0)] [(.int 3), (.int 0)])) _
    refine XS.icmpNo X2.here hx rfl (hb hby d17_11) rfl (tlt (by decide : (0 : Int32) < (3 : Int32))).2.1 ?_
    refine XS.aloadN X2.here hx rfl (hb hby d17_14) rfl rfl ?_
    refine XS.iload X2.here hx rfl (hb hby d17_15) rfl ?_
    refine XS.aloadN X2.here hx rfl (hb hby d17_17) rfl rfl ?_
    refine XS.iloadN X2.here hx rfl (hb hby d17_18) rfl ?_
    exact kt
  have f13 : Arv Z T2.heap a1 kc .char (3 : Int32) [(.int c0), (.int c1), (.int c2)] (.int 0) := (VC.keep K2 nin0)
  obtain ⟨cl14, Ar14, -, Sz14, -, Hs14, -⟩ := id f13
  have hin14 : ¬ ((0 : Int32) < 0 ∨ cl14.slots.size ≤ ((0 : Int32)).toNatClampNeg) := inb_of Sz14 ⟨by decide, by decide⟩
  have pre15 : own_Go p e below S0 (T2.setTop (mkF m 20 #[.val (.ref a1), .val (.int 0), .val (.int 3), .val (.ref b3), .val (.int 0)] [(.int c0), (.int 0), (.ref b3)])) := by
    intro t kt
    refine pre12 t ?_
    refine X2.caload hx (j := (0 : Int32)) (v := (.int c0)) Ar14.1 (State.isArrayOf_alike hZ.alike Ar14.2.1) Ar14.2.2 hin14 (Hs14.at hin14 rfl) (g := (mkF m 19 #[.val (.ref a1), .val (.int 0), .val (.int 3), .val (.ref b3), .val (.int 0)] [(.int 0), (.ref a1), (.int 0), (.ref b3)])) rfl rfl (hb hby d17_19) _ ?_
    exact kt
  have f16 : Old Z n0 T2.heap := (O0.keep K2 all0)
  obtain ⟨_, _, ⟨T17, L17, k17, n17⟩, -, X17, ⟨Lc17, hQ17, l17, y17, z17⟩, st17⟩ := Jvm.LawKit.callS X2 hx (y := own_m20) hown (mvT hZ (hw _ (own_w 87 rfl))) (mvT hZ (hw _ (own_w 88 rfl))) (mvT hZ (hw _ (own_w 40 rfl))) (mvT hZ (hw _ (own_w 89 rfl))) (by decide) (backOf (W := 0) (rmputc_0_6 l Z a0 hw [] b3 c0 kb4 (.int 0) (.int 0) (.int 0) (.int 0) (.int 0) (.int 0) T2.heap n0 zs10 f16 qU ge8 g6) hZ (hw _ (own_w 89 rfl)) (hw _ (own_w 40 rfl)) (by decide) (by decide)) (g := (mkF m 20 #[.val (.ref a1), .val (.int 0), .val (.int 3), .val (.ref b3), .val (.int 0)] [(.int c0), (.int 0), (.ref b3)])) rfl (by rw [hml]; rfl) (argsL := [(.ref b3), (.int 0), (.int c0)]) (rest := []) (lenOf pd_4 rfl) rfl (by show 2 * 0 + _ ≤ _; exact Nat.le_of_eq rfl) (hb hby d17_20) (fun _ _ => ⟨rfl, rfl, (by decide : 1 + 0 ≤ _), (by decide : 6 + 0 ≤ _)⟩)
  dsimp only [Pt.U, Pt.locs, Pt.cells, Pt.slots] at X17 l17 y17 z17 st17 hQ17
  subst l17 y17 z17
  obtain ⟨rfl, Nq17, K17, g18⟩ := hQ17
  have N17 := Fr.app N2 Nq17
  have zs19 : n0 ≤ T17.heap.size := Nat.le_trans zs10 K17.1
  have kc20 : Keep h0 T17.heap [] := kc11.trans K17 (allS (Or.inr sz9) all0)
  have pre21 : own_Go p e below S0 (T17.setTop (mkF m 19 #[.val (.ref a1), .val (.int 1), .val (.int 3), .val (.ref b3), .val (.int 1)] [(.int 1), (.ref a1), (.int 1), (.ref b3)])) := by
    intro t kt
    refine pre15 t ?_
    refine st17 _ ?_
    show Steps p.tables e below (T17.setTop (mkF m 23 #[.val (.ref a1), .val (.int 0), .val (.int 3), .val (.ref b3), .val (.int 0)] [])) _
    refine XS.iinc X17.here hx rfl (hb hby d17_23) rfl (l' := #[.val (.ref a1), .val (.int 1), .val (.int 3), .val (.ref b3), .val (.int 0)]) rfl ?_
    refine XS.iinc X17.here hx rfl (hb hby d17_26) rfl (l' := #[.val (.ref a1), .val (.int 1), .val (.int 3), .val (.ref b3), .val (.int 1)]) rfl ?_
    refine XS.goto X17.here hx rfl (pc0 := 29) (pc' := 8) rfl (hb hby d17_29) (by decide) (by decide) ?_
    refine XS.iload X17.here hx rfl (hb hby d17_8) rfl ?_
    refine XS.iloadN X17.here hx rfl (hb hby d17_10) rfl ?_
    show Steps p.tables e below (T17.setTop (mkF m 11 #[.val (.ref a1), .val (.int 1), .val (.int 3), .val (.ref b3), .val (.int 1)] [(.int 3), (.int 1)])) _
    refine XS.icmpNo X17.here hx rfl (hb hby d17_11) rfl (tlt (by decide : (1 : Int32) < (3 : Int32))).2.1 ?_
    refine XS.aloadN X17.here hx rfl (hb hby d17_14) rfl rfl ?_
    refine XS.iload X17.here hx rfl (hb hby d17_15) rfl ?_
    refine XS.aloadN X17.here hx rfl (hb hby d17_17) rfl rfl ?_
    refine XS.iloadN X17.here hx rfl (hb hby d17_18) rfl ?_
    exact kt
  have f22 : Arv Z T17.heap a1 kc .char (3 : Int32) [(.int c0), (.int c1), (.int c2)] (.int 0) := (f13.keep K17 (ninS ne7 nin0))
  obtain ⟨cl23, Ar23, -, Sz23, -, Hs23, -⟩ := id f22
  have hin23 : ¬ ((1 : Int32) < 0 ∨ cl23.slots.size ≤ ((1 : Int32)).toNatClampNeg) := inb_of Sz23 ⟨by decide, by decide⟩
  have pre24 : own_Go p e below S0 (T17.setTop (mkF m 20 #[.val (.ref a1), .val (.int 1), .val (.int 3), .val (.ref b3), .val (.int 1)] [(.int c1), (.int 1), (.ref b3)])) := by
    intro t kt
    refine pre21 t ?_
    refine X17.caload hx (j := (1 : Int32)) (v := (.int c1)) Ar23.1 (State.isArrayOf_alike hZ.alike Ar23.2.1) Ar23.2.2 hin23 (Hs23.at hin23 rfl) (g := (mkF m 19 #[.val (.ref a1), .val (.int 1), .val (.int 3), .val (.ref b3), .val (.int 1)] [(.int 1), (.ref a1), (.int 1), (.ref b3)])) rfl rfl (hb hby d17_19) _ ?_
    exact kt
  have f25 : Old Z n0 T17.heap := (f16.keep K17 (allS ge8 all0))
  obtain ⟨_, _, ⟨T26, L26, k26, n26⟩, -, X26, ⟨Lc26, hQ26, l26, y26, z26⟩, st26⟩ := Jvm.LawKit.callS X17 hx (y := own_m20) hown (mvT hZ (hw _ (own_w 87 rfl))) (mvT hZ (hw _ (own_w 88 rfl))) (mvT hZ (hw _ (own_w 40 rfl))) (mvT hZ (hw _ (own_w 89 rfl))) (by decide) (backOf (W := 0) (rmputc_1_6 l Z a0 hw [] b3 c1 kb4 (.int (nar .byte ((c0 >>> ((0 : Int32) &&& 31)).toInt8.toInt32))) (.int (nar .byte ((c0 >>> ((8 : Int32) &&& 31)).toInt8.toInt32))) (.int 0) (.int 0) (.int 0) (.int 0) T17.heap n0 zs19 f25 qU ge8 g18) hZ (hw _ (own_w 89 rfl)) (hw _ (own_w 40 rfl)) (by decide) (by decide)) (g := (mkF m 20 #[.val (.ref a1), .val (.int 1), .val (.int 3), .val (.ref b3), .val (.int 1)] [(.int c1), (.int 1), (.ref b3)])) rfl (by rw [hml]; rfl) (argsL := [(.ref b3), (.int 1), (.int c1)]) (rest := []) (lenOf pd_4 rfl) rfl (by show 2 * 0 + _ ≤ _; exact Nat.le_of_eq rfl) (hb hby d17_20) (fun _ _ => ⟨rfl, rfl, (by decide : 1 + 0 ≤ _), (by decide : 6 + 0 ≤ _)⟩)
  dsimp only [Pt.U, Pt.locs, Pt.cells, Pt.slots] at X26 l26 y26 z26 st26 hQ26
  subst l26 y26 z26
  obtain ⟨rfl, Nq26, K26, g27⟩ := hQ26
  have N26 := Fr.app N17 Nq26
  have zs28 : n0 ≤ T26.heap.size := Nat.le_trans zs19 K26.1
  have kc29 : Keep h0 T26.heap [] := kc20.trans K26 (allS (Or.inr sz9) all0)
  have pre30 : own_Go p e below S0 (T26.setTop (mkF m 19 #[.val (.ref a1), .val (.int 2), .val (.int 3), .val (.ref b3), .val (.int 2)] [(.int 2), (.ref a1), (.int 2), (.ref b3)])) := by
    intro t kt
    refine pre24 t ?_
    refine st26 _ ?_
    show Steps p.tables e below (T26.setTop (mkF m 23 #[.val (.ref a1), .val (.int 1), .val (.int 3), .val (.ref b3), .val (.int 1)] [])) _
    refine XS.iinc X26.here hx rfl (hb hby d17_23) rfl (l' := #[.val (.ref a1), .val (.int 2), .val (.int 3), .val (.ref b3), .val (.int 1)]) rfl ?_
    refine XS.iinc X26.here hx rfl (hb hby d17_26) rfl (l' := #[.val (.ref a1), .val (.int 2), .val (.int 3), .val (.ref b3), .val (.int 2)]) rfl ?_
    refine XS.goto X26.here hx rfl (pc0 := 29) (pc' := 8) rfl (hb hby d17_29) (by decide) (by decide) ?_
    refine XS.iload X26.here hx rfl (hb hby d17_8) rfl ?_
    refine XS.iloadN X26.here hx rfl (hb hby d17_10) rfl ?_
    show Steps p.tables e below (T26.setTop (mkF m 11 #[.val (.ref a1), .val (.int 2), .val (.int 3), .val (.ref b3), .val (.int 2)] [(.int 3), (.int 2)])) _
    refine XS.icmpNo X26.here hx rfl (hb hby d17_11) rfl (tlt (by decide : (2 : Int32) < (3 : Int32))).2.1 ?_
    refine XS.aloadN X26.here hx rfl (hb hby d17_14) rfl rfl ?_
    refine XS.iload X26.here hx rfl (hb hby d17_15) rfl ?_
    refine XS.aloadN X26.here hx rfl (hb hby d17_17) rfl rfl ?_
    refine XS.iloadN X26.here hx rfl (hb hby d17_18) rfl ?_
    exact kt
  have f31 : Arv Z T26.heap a1 kc .char (3 : Int32) [(.int c0), (.int c1), (.int c2)] (.int 0) := (f22.keep K26 (ninS ne7 nin0))
  obtain ⟨cl32, Ar32, -, Sz32, -, Hs32, -⟩ := id f31
  have hin32 : ¬ ((2 : Int32) < 0 ∨ cl32.slots.size ≤ ((2 : Int32)).toNatClampNeg) := inb_of Sz32 ⟨by decide, by decide⟩
  have pre33 : own_Go p e below S0 (T26.setTop (mkF m 20 #[.val (.ref a1), .val (.int 2), .val (.int 3), .val (.ref b3), .val (.int 2)] [(.int c2), (.int 2), (.ref b3)])) := by
    intro t kt
    refine pre30 t ?_
    refine X26.caload hx (j := (2 : Int32)) (v := (.int c2)) Ar32.1 (State.isArrayOf_alike hZ.alike Ar32.2.1) Ar32.2.2 hin32 (Hs32.at hin32 rfl) (g := (mkF m 19 #[.val (.ref a1), .val (.int 2), .val (.int 3), .val (.ref b3), .val (.int 2)] [(.int 2), (.ref a1), (.int 2), (.ref b3)])) rfl rfl (hb hby d17_19) _ ?_
    exact kt
  have f34 : Old Z n0 T26.heap := (f25.keep K26 (allS ge8 all0))
  obtain ⟨_, _, ⟨T35, L35, k35, n35⟩, -, X35, ⟨Lc35, hQ35, l35, y35, z35⟩, st35⟩ := Jvm.LawKit.callS X26 hx (y := own_m20) hown (mvT hZ (hw _ (own_w 87 rfl))) (mvT hZ (hw _ (own_w 88 rfl))) (mvT hZ (hw _ (own_w 40 rfl))) (mvT hZ (hw _ (own_w 89 rfl))) (by decide) (backOf (W := 0) (rmputc_2_6 l Z a0 hw [] b3 c2 kb4 (.int (nar .byte ((c0 >>> ((0 : Int32) &&& 31)).toInt8.toInt32))) (.int (nar .byte ((c0 >>> ((8 : Int32) &&& 31)).toInt8.toInt32))) (.int (nar .byte ((c1 >>> ((0 : Int32) &&& 31)).toInt8.toInt32))) (.int (nar .byte ((c1 >>> ((8 : Int32) &&& 31)).toInt8.toInt32))) (.int 0) (.int 0) T26.heap n0 zs28 f34 qU ge8 g27) hZ (hw _ (own_w 89 rfl)) (hw _ (own_w 40 rfl)) (by decide) (by decide)) (g := (mkF m 20 #[.val (.ref a1), .val (.int 2), .val (.int 3), .val (.ref b3), .val (.int 2)] [(.int c2), (.int 2), (.ref b3)])) rfl (by rw [hml]; rfl) (argsL := [(.ref b3), (.int 2), (.int c2)]) (rest := []) (lenOf pd_4 rfl) rfl (by show 2 * 0 + _ ≤ _; exact Nat.le_of_eq rfl) (hb hby d17_20) (fun _ _ => ⟨rfl, rfl, (by decide : 1 + 0 ≤ _), (by decide : 6 + 0 ≤ _)⟩)
  dsimp only [Pt.U, Pt.locs, Pt.cells, Pt.slots] at X35 l35 y35 z35 st35 hQ35
  subst l35 y35 z35
  obtain ⟨rfl, Nq35, K35, g36⟩ := hQ35
  have N35 := Fr.app N26 Nq35
  have zs37 : n0 ≤ T35.heap.size := Nat.le_trans zs28 K35.1
  have kc38 : Keep h0 T35.heap [] := kc29.trans K35 (allS (Or.inr sz9) all0)
  have pre39 : own_Go p e below S0 (T35.setTop (mkF m 33 #[.val (.ref a1), .val (.int 3), .val (.int 3), .val (.ref b3), .val (.int 3)] [(.ref b3)])) := by
    intro t kt
    refine pre33 t ?_
    refine st35 _ ?_
    show Steps p.tables e below (T35.setTop (mkF m 23 #[.val (.ref a1), .val (.int 2), .val (.int 3), .val (.ref b3), .val (.int 2)] [])) _
    refine XS.iinc X35.here hx rfl (hb hby d17_23) rfl (l' := #[.val (.ref a1), .val (.int 3), .val (.int 3), .val (.ref b3), .val (.int 2)]) rfl ?_
    refine XS.iinc X35.here hx rfl (hb hby d17_26) rfl (l' := #[.val (.ref a1), .val (.int 3), .val (.int 3), .val (.ref b3), .val (.int 3)]) rfl ?_
    refine XS.goto X35.here hx rfl (pc0 := 29) (pc' := 8) rfl (hb hby d17_29) (by decide) (by decide) ?_
    refine XS.iload X35.here hx rfl (hb hby d17_8) rfl ?_
    refine XS.iloadN X35.here hx rfl (hb hby d17_10) rfl ?_
    show Steps p.tables e below (T35.setTop (mkF m 11 #[.val (.ref a1), .val (.int 3), .val (.int 3), .val (.ref b3), .val (.int 3)] [(.int 3), (.int 3)])) _
    refine XS.icmpYes X35.here hx rfl (pc0 := 11) (pc' := 32) rfl (hb hby d17_11) rfl (flt (by decide : ¬ ((3 : Int32) < (3 : Int32)))).2.1 (by decide) (by decide) ?_
    refine XS.aloadN X35.here hx rfl (hb hby d17_32) rfl rfl ?_
    exact kt
  obtain ⟨fs, hr, hrun, hended, hW, hsame⟩ := X35.leave (v := some (.ref b3)) (fun h => by rw [Bd.returns] at h; cases h)
  refine ⟨_, _, fin _ (pre39 _ ?_), hrun, hended, _, _, rfl, ?_, ⟨_, rfl⟩, hW, hsame.mono (by decide) (by decide)⟩
  · jvm_step X35.here [X35.here.top, hx, (hb hby d17_33), X35.method', Bd.returns, Value.isRef, FieldType.isReference]
    first | (intro acts; rw [hr _ acts rfl rfl rfl]) | rw [hr _ _ rfl rfl rfl]
    exact Steps.refl _
  · show QtoB_3 Z a1 kc c0 c1 c2 h0 n0 _ T35.heap _
    exact ⟨b3, kb4, rfl, N35, kc38, sz9, g36⟩

theorem ef_cmp3_3 (m : MethodId) (x0 : Addr) : entryFrame m #[(.ref x0), (.int 0), (.int 3)] 6 = mkF m 0 #[.val (.ref x0), .val (.int 0), .val (.int 3), .unset, .unset, .unset] [] := by first | (simp [entryFrame, mkF, argsToLocals, Value.category]; done) | rfl
def Qcmp3_3 (Z : State) (a1 : Addr) (kc : ClassId) (c0 : Int32) (c1 : Int32) (c2 : Int32) (h0 : Heap) (n0 : Nat) (v : Option Value) (h : Heap) (L : List Loc) : Prop := ∃ b : Addr, ∃ kb : ClassId, v = (some (.ref b)) ∧ Fr n0 L ∧ Keep h0 h [] ∧ h0.size ≤ b ∧ ((own_Lat [c0, c1, c2] ∧ Arv Z h b kb .byte (3 : Int32) [(.int (nar .byte (c0.toInt8.toInt32))), (.int (nar .byte (c1.toInt8.toInt32))), (.int (nar .byte (c2.toInt8.toInt32)))] (.int 0)) ∨ (own_Chr [c0, c1, c2] ∧ Arv Z h b kb .byte (6 : Int32) [(.int (nar .byte ((c0 >>> ((0 : Int32) &&& 31)).toInt8.toInt32))), (.int (nar .byte ((c0 >>> ((8 : Int32) &&& 31)).toInt8.toInt32))), (.int (nar .byte ((c1 >>> ((0 : Int32) &&& 31)).toInt8.toInt32))), (.int (nar .byte ((c1 >>> ((8 : Int32) &&& 31)).toInt8.toInt32))), (.int (nar .byte ((c2 >>> ((0 : Int32) &&& 31)).toInt8.toInt32))), (.int (nar .byte ((c2 >>> ((8 : Int32) &&& 31)).toInt8.toInt32)))] (.int 0)))
set_option maxRecDepth 65536 in
set_option maxHeartbeats 40000000 in
theorem rmcmp3_3 (l : Launch) (Z : State) (a0 : Array Value) (hw : ∀ d ∈ tables_1, d.before a0 Z = true) (ws : List Jvm.Cond) (a1 : Addr) (kc : ClassId) (c0 : Int32) (c1 : Int32) (c2 : Int32) (h0 : Heap) (n0 : Nat) (Z0 : n0 ≤ h0.size) (O0 : Old Z n0 h0) (qU : (own_SU Z)) (VC : Arv Z h0 a1 kc .char (3 : Int32) [(.int c0), (.int c1), (.int c2)] (.int 0)) :
    MetFree l own_m14 (head1 (Jvm.Cond.code own_m14 jdk_52_method_16_code 6 (some (.array .byte)) :: ws) (own_r 3 2 9 40)) (fun a U => a = #[(.ref a1), (.int 0), (.int 3)] ∧ Z.Warmed39 U.vm ∧ U.heap = h0) (fun _ _ _ _ _ => True) (fun _ U o U' => ∃ v L, o = .returned v ∧ Qcmp3_3 Z a1 kc c0 c1 c2 h0 n0 v U'.heap L ∧ FrameEnd U o U' L (own_r 3 2 9 40).cells (own_r 3 2 9 40).slots) := by
  refine MetFree.of_bodySF (plainFor_of_name pn_7) hisR ?_
  intro p e s m args below meth c s₁ Bd hml0 hP hK
  obtain ⟨rfl, hZ, hh⟩ := hP
  have hx := Bd.exec
  have hby := Bd.bytes
  have hml : c.maxLocals = 6 := hml0
  have hown0 := findClass_of_methodNamed Bd.named
  have hown : s.vm.findClass "java/lang/StringUTF16" = some m.cls := hown0
  have hnm := (name_of_methodNamed Bd.named Bd.method).1
  have X0 : Stand p l e (own_r 3 2 9 40) s m #[(.ref a1), (.int 0), (.int 3)] below meth c s₁ [] 0 0 := Stand.of_body Bd
  have e0 : s₁.heap = h0 := by rw [← hh, Bd.state]; rfl
  have N0 := Fr.nil n0
  obtain ⟨S0, hS0⟩ : ∃ z, z = s₁.setTop (entryFrame m #[(.ref a1), (.int 0), (.int 3)] 6) := ⟨_, rfl⟩
  have pre0 : own_Go p e below S0 (s₁.setTop (mkF m 0 #[.val (.ref a1), .val (.int 0), .val (.int 3), .unset, .unset, .unset] [])) := fun t k => by rw [hS0]; exact castTop (ef_cmp3_3 m a1) k
  have fin : ∀ t, Steps p.tables e below S0 t → Steps p.tables e below (s₁.setTop (entryFrame m #[(.ref a1), (.int 0), (.int 3)] 6)) t := fun t k => by rw [hS0] at k; exact k
  have kc0 : Keep h0 h0 [] := Keep.refl _ _
  have pre1 : own_Go p e below S0 (s₁.setTop (mkF m 1 #[.val (.ref a1), .val (.int 0), .val (.int 3), .unset, .unset, .unset] [(.int 3)])) := by
    intro t kt
    refine pre0 t ?_
    refine XS.iloadN X0.here hx rfl (hb hby d7_0) rfl ?_
    exact kt
  obtain ⟨T2, h2, k2, X2, e2, E2, A2, st2⟩ := newP X0 hx hZ (hw _ (own_w 16 rfl)) e0 (g := (mkF m 1 #[.val (.ref a1), .val (.int 0), .val (.int 3), .unset, .unset, .unset] [(.int 3)])) rfl (hb hby d7_1) rfl (by decide) (cap := 3) (by decide) (by decide) (by decide) (by decide)
  obtain ⟨b2, g2⟩ : ∃ z, z = h0.size := ⟨_, rfl⟩
  rw [← g2] at A2 st2
  have ne3 : a1 ≠ b2 := Nat.ne_of_lt (Nat.lt_of_lt_of_le VC.lt (Nat.le_of_eq g2.symm))
  have ge4 : n0 ≤ b2 := Nat.le_trans Z0 (Nat.le_of_eq g2.symm)
  have sz5 : h0.size ≤ b2 := Nat.le_trans kc0.1 (Nat.le_of_eq g2.symm)
  have zs6 : n0 ≤ h2.size := Nat.le_trans Z0 E2.1
  have kc7 : Keep h0 h2 [] := kc0.ext E2
  have V2 : Arv Z h2 b2 k2 .byte (3 : Int32) [(.int 0), (.int 0), (.int 0)] (.int 0) := (Arv.new A2 (by decide)).pad (pad_rep [] (.int 0) 3)
  have pre8 : own_Go p e below S0 (T2.setTop (mkF m 9 #[.val (.ref a1), .val (.int 0), .val (.int 3), .val (.ref b2), .unset, .unset] [(.int 3), (.int 0), (.ref b2), (.int 0), (.ref a1)])) := by
    intro t kt
    refine pre1 t ?_
    refine st2 _ ?_
    refine XS.astoreN X2.here hx rfl (hb hby d7_3) rfl rfl (l' := #[.val (.ref a1), .val (.int 0), .val (.int 3), .val (.ref b2), .unset, .unset]) rfl ?_
    refine XS.aloadN X2.here hx rfl (hb hby d7_4) rfl rfl ?_
    refine XS.iloadN X2.here hx rfl (hb hby d7_5) rfl ?_
    refine XS.aloadN X2.here hx rfl (hb hby d7_6) rfl rfl ?_
    refine XS.iconst X2.here hx rfl (hb hby d7_7) ?_
    show Steps p.tables e below (T2.setTop (mkF m 8 #[.val (.ref a1), .val (.int 0), .val (.int 3), .val (.ref b2), .unset, .unset] [(.int 0), (.ref b2), (.int 0), (.ref a1)])) _
    refine XS.iloadN X2.here hx rfl (hb hby d7_8) rfl ?_
    exact kt
  have f9 : Arv Z h2 a1 kc .char (3 : Int32) [(.int c0), (.int c1), (.int c2)] (.int 0) := (VC.ext E2)
  obtain ⟨_, _, ⟨T10, L10, k10, n10⟩, -, X10, ⟨Lc10, hQ10, l10, y10, z10⟩, st10⟩ := Jvm.LawKit.callS X2 hx (y := own_m15) hown (mvT hZ (hw _ (own_w 42 rfl))) (mvT hZ (hw _ (own_w 43 rfl))) (mvT hZ (hw _ (own_w 40 rfl))) (mvT hZ (hw _ (own_w 44 rfl))) (by decide) (backOf (W := 0) (rmcmp5_3 l Z a0 hw [] a1 b2 kc k2 c0 c1 c2 h2 n0 zs6 f9 ge4 V2 ne3) hZ (hw _ (own_w 44 rfl)) (hw _ (own_w 40 rfl)) (by decide) (by decide)) (g := (mkF m 9 #[.val (.ref a1), .val (.int 0), .val (.int 3), .val (.ref b2), .unset, .unset] [(.int 3), (.int 0), (.ref b2), (.int 0), (.ref a1)])) rfl (by rw [hml]; rfl) (argsL := [(.ref a1), (.int 0), (.ref b2), (.int 0), (.int 3)]) (rest := []) (lenOf pd_5 rfl) rfl (by show 2 * 0 + _ ≤ _; exact Nat.le_of_eq rfl) (hb hby d7_9) (fun _ _ => ⟨rfl, e2, (by decide : 1 + 0 ≤ _), (by decide : 3 + 0 ≤ _)⟩)
  dsimp only [Pt.U, Pt.locs, Pt.cells, Pt.slots] at X10 l10 y10 z10 st10 hQ10
  subst l10 y10 z10
  obtain ⟨r11, rfl, Nq10, K10, g12⟩ := hQ10
  have N10 := Fr.app N0 Nq10
  have zs13 : n0 ≤ T10.heap.size := Nat.le_trans zs6 K10.1
  have kc14 : Keep h0 T10.heap [] := kc7.trans K10 (allS (Or.inr sz5) all0)
  have pre15 : own_Go p e below S0 (T10.setTop (mkF m 12 #[.val (.ref a1), .val (.int 0), .val (.int 3), .val (.ref b2), .unset, .unset] [(.int r11)])) := by
    intro t kt
    refine pre8 t ?_
    refine st10 _ ?_
    show Steps p.tables e below (T10.setTop (mkF m 12 #[.val (.ref a1), .val (.int 0), .val (.int 3), .val (.ref b2), .unset, .unset] [(.int r11)])) _
    exact kt
  obtain ⟨hr, hl, hv⟩ | ⟨hr, hg⟩ | ⟨hr, hg⟩ | ⟨hr, hg⟩ := g12
  · have pre16 : own_Go p e below S0 (T10.setTop (mkF m 12 #[.val (.ref a1), .val (.int 0), .val (.int 3), .val (.ref b2), .unset, .unset] [(.int 3)])) := by
      intro t kt
      refine pre15 t ?_
      rw [hr]
      exact kt
    have pre17 : own_Go p e below S0 (T10.setTop (mkF m 58 #[.val (.ref a1), .val (.int 0), .val (.int 3), .val (.ref b2), .val (.int 3), .unset] [(.ref b2)])) := by
      intro t kt
      refine pre16 t ?_
      refine XS.istore X10.here hx rfl (hb hby d7_12) rfl (l' := #[.val (.ref a1), .val (.int 0), .val (.int 3), .val (.ref b2), .val (.int 3), .unset]) rfl ?_
      refine XS.iload X10.here hx rfl (hb hby d7_14) rfl ?_
      refine XS.iloadN X10.here hx rfl (hb hby d7_16) rfl ?_
      refine XS.icmpYes X10.here hx rfl (pc0 := 17) (pc' := 57) rfl (hb hby d7_17) rfl (teq (by decide : (3 : Int32) = (3 : Int32))).1 (by decide) (by decide) ?_
      refine XS.aloadN X10.here hx rfl (hb hby d7_57) rfl rfl ?_
      exact kt
    obtain ⟨fs, hr, hrun, hended, hW, hsame⟩ := X10.leave (v := some (.ref b2)) (fun h => by rw [Bd.returns] at h; cases h)
    refine ⟨_, _, fin _ (pre17 _ ?_), hrun, hended, _, _, rfl, ?_, ⟨_, rfl⟩, hW, hsame.mono (by decide) (by decide)⟩
    · jvm_step X10.here [X10.here.top, hx, (hb hby d7_58), X10.method', Bd.returns, Value.isRef, FieldType.isReference]
      first | (intro acts; rw [hr _ acts rfl rfl rfl]) | rw [hr _ _ rfl rfl rfl]
      exact Steps.refl _
    · show Qcmp3_3 Z a1 kc c0 c1 c2 h0 n0 _ T10.heap _
      exact ⟨b2, k2, rfl, N10, kc14, sz5, (Or.inl ⟨hl, hv⟩)⟩
  · have pre18 : own_Go p e below S0 (T10.setTop (mkF m 12 #[.val (.ref a1), .val (.int 0), .val (.int 3), .val (.ref b2), .unset, .unset] [(.int 0)])) := by
      intro t kt
      refine pre15 t ?_
      rw [hr]
      exact kt
    have pre19 : own_Go p e below S0 (T10.setTop (mkF m 23 #[.val (.ref a1), .val (.int 0), .val (.int 3), .val (.ref b2), .val (.int 0), .unset] [(.int 3), (.int 0), (.ref a1)])) := by
      intro t kt
      refine pre18 t ?_
      refine XS.istore X10.here hx rfl (hb hby d7_12) rfl (l' := #[.val (.ref a1), .val (.int 0), .val (.int 3), .val (.ref b2), .val (.int 0), .unset]) rfl ?_
      refine XS.iload X10.here hx rfl (hb hby d7_14) rfl ?_
      refine XS.iloadN X10.here hx rfl (hb hby d7_16) rfl ?_
      refine XS.icmpNo X10.here hx rfl (hb hby d7_17) rfl (feq (by decide : ¬ ((0 : Int32) = (3 : Int32)))).1 ?_
      refine XS.aloadN X10.here hx rfl (hb hby d7_20) rfl rfl ?_
      refine XS.iloadN X10.here hx rfl (hb hby d7_21) rfl ?_
      show Steps p.tables e below (T10.setTop (mkF m 22 #[.val (.ref a1), .val (.int 0), .val (.int 3), .val (.ref b2), .val (.int 0), .unset] [(.int 0), (.ref a1)])) _
      refine XS.iloadN X10.here hx rfl (hb hby d7_22) rfl ?_
      exact kt
    have f20 : Old Z n0 T10.heap := ((O0.ext E2).keep K10 (allS ge4 all0))
    have f21 : Arv Z T10.heap a1 kc .char (3 : Int32) [(.int c0), (.int c1), (.int c2)] (.int 0) := (f9.keep K10 (ninS ne3 nin0))
    obtain ⟨_, _, ⟨T22, L22, k22, n22⟩, -, X22, ⟨Lc22, hQ22, l22, y22, z22⟩, st22⟩ := Jvm.LawKit.callS X10 hx (y := own_m21) hown (mvT hZ (hw _ (own_w 77 rfl))) (mvT hZ (hw _ (own_w 78 rfl))) (mvT hZ (hw _ (own_w 40 rfl))) (mvT hZ (hw _ (own_w 79 rfl))) (by decide) (backOf (W := 0) (rmtoB_3 l Z a0 hw [] a1 kc c0 c1 c2 T10.heap n0 zs13 f20 qU f21) hZ (hw _ (own_w 79 rfl)) (hw _ (own_w 40 rfl)) (by decide) (by decide)) (g := (mkF m 23 #[.val (.ref a1), .val (.int 0), .val (.int 3), .val (.ref b2), .val (.int 0), .unset] [(.int 3), (.int 0), (.ref a1)])) rfl (by rw [hml]; rfl) (argsL := [(.ref a1), (.int 0), (.int 3)]) (rest := []) (lenOf pd_6 rfl) rfl (by show 2 * 0 + _ ≤ _; exact Nat.le_of_eq rfl) (hb hby d7_23) (fun _ _ => ⟨rfl, rfl, (by decide : 1 + 1 ≤ _), (by decide : 3 + 6 ≤ _)⟩)
    dsimp only [Pt.U, Pt.locs, Pt.cells, Pt.slots] at X22 l22 y22 z22 st22 hQ22
    subst l22 y22 z22
    obtain ⟨b23, kb24, rfl, Nq22, K22, g25, g26⟩ := hQ22
    have N22 := Fr.app N10 Nq22
    have ne27 : a1 ≠ b23 := Nat.ne_of_lt (Nat.lt_of_lt_of_le f21.lt g25)
    have ge28 : n0 ≤ b23 := Nat.le_trans zs13 g25
    have sz29 : h0.size ≤ b23 := Nat.le_trans kc14.1 g25
    have zs30 : n0 ≤ T22.heap.size := Nat.le_trans zs13 K22.1
    have kc31 : Keep h0 T22.heap [] := kc14.trans K22 all0
    have pre32 : own_Go p e below S0 (T22.setTop (mkF m 32 #[.val (.ref a1), .val (.int 0), .val (.int 3), .val (.ref b2), .val (.int 0), .val (.ref b23)] [(.int 0), (.ref b23)])) := by
      intro t kt
      refine pre19 t ?_
      refine st22 _ ?_
      show Steps p.tables e below (T22.setTop (mkF m 26 #[.val (.ref a1), .val (.int 0), .val (.int 3), .val (.ref b2), .val (.int 0), .unset] [(.ref b23)])) _
      refine XS.astore X22.here hx rfl (hb hby d7_26) rfl rfl (l' := #[.val (.ref a1), .val (.int 0), .val (.int 3), .val (.ref b2), .val (.int 0), .val (.ref b23)]) rfl ?_
      refine XS.aload X22.here hx rfl (hb hby d7_28) rfl rfl ?_
      refine XS.iload X22.here hx rfl (hb hby d7_30) rfl ?_
      exact kt
    have f33 : Old Z n0 T22.heap := (f20.keep K22 all0)
    obtain ⟨_, _, ⟨T34, L34, k34, n34⟩, -, X34, ⟨Lc34, hQ34, l34, y34, z34⟩, st34⟩ := Jvm.LawKit.callS X22 hx (y := own_m16) hown (mvT hZ (hw _ (own_w 93 rfl))) (mvT hZ (hw _ (own_w 94 rfl))) (mvT hZ (hw _ (own_w 40 rfl))) (mvT hZ (hw _ (own_w 95 rfl))) (by decide) (backOf (W := 0) (rmgetc l Z a0 hw [] b23 (0 : Int32) kb24 (6 : Int32) [(.int (nar .byte ((c0 >>> ((0 : Int32) &&& 31)).toInt8.toInt32))), (.int (nar .byte ((c0 >>> ((8 : Int32) &&& 31)).toInt8.toInt32))), (.int (nar .byte ((c1 >>> ((0 : Int32) &&& 31)).toInt8.toInt32))), (.int (nar .byte ((c1 >>> ((8 : Int32) &&& 31)).toInt8.toInt32))), (.int (nar .byte ((c2 >>> ((0 : Int32) &&& 31)).toInt8.toInt32))), (.int (nar .byte ((c2 >>> ((8 : Int32) &&& 31)).toInt8.toInt32)))] (.int 0) (nar .byte ((c0 >>> ((0 : Int32) &&& 31)).toInt8.toInt32)) (nar .byte ((c0 >>> ((8 : Int32) &&& 31)).toInt8.toInt32)) 0 1 T22.heap n0 zs30 f33 qU g26 (by decide +kernel) (by decide +kernel) (by decide +kernel) rfl (by decide +kernel) (by decide +kernel) (by decide +kernel) rfl) hZ (hw _ (own_w 95 rfl)) (hw _ (own_w 40 rfl)) (by decide) (by decide)) (g := (mkF m 32 #[.val (.ref a1), .val (.int 0), .val (.int 3), .val (.ref b2), .val (.int 0), .val (.ref b23)] [(.int 0), (.ref b23)])) rfl (by rw [hml]; rfl) (argsL := [(.ref b23), (.int 0)]) (rest := []) (lenOf pd_7 rfl) rfl (by show 2 * 0 + _ ≤ _; exact Nat.le_of_eq rfl) (hb hby d7_32) (fun _ _ => ⟨rfl, rfl, (by decide : 2 + 0 ≤ _), (by decide : 9 + 0 ≤ _)⟩)
    dsimp only [Pt.U, Pt.locs, Pt.cells, Pt.slots] at X34 l34 y34 z34 st34 hQ34
    subst l34 y34 z34
    obtain ⟨rfl, Nq34, eq34⟩ := hQ34
    have N34 := Fr.app N22 Nq34
    have pre35 : own_Go p e below S0 (T34.setTop (mkF m 35 #[.val (.ref a1), .val (.int 0), .val (.int 3), .val (.ref b2), .val (.int 0), .val (.ref b23)] [(.int (own_gc (nar .byte ((c0 >>> ((0 : Int32) &&& 31)).toInt8.toInt32)) (nar .byte ((c0 >>> ((8 : Int32) &&& 31)).toInt8.toInt32))))])) := by
      intro t kt
      refine pre32 t ?_
      refine st34 _ ?_
      show Steps p.tables e below (T34.setTop (mkF m 35 #[.val (.ref a1), .val (.int 0), .val (.int 3), .val (.ref b2), .val (.int 0), .val (.ref b23)] [(.int (own_gc (nar .byte ((c0 >>> ((0 : Int32) &&& 31)).toInt8.toInt32)) (nar .byte ((c0 >>> ((8 : Int32) &&& 31)).toInt8.toInt32))))])) _
      exact kt
    have pre36 : own_Go p e below S0 (T34.setTop (mkF m 35 #[.val (.ref a1), .val (.int 0), .val (.int 3), .val (.ref b2), .val (.int 0), .val (.ref b23)] [(.int c0)])) := by
      intro t kt
      refine pre35 t ?_
      rw [own_utfget c0 (own_fitAt VC 0 (by decide) rfl)]
      exact kt
    have pre37 : own_Go p e below S0 (T34.setTop (mkF m 56 #[.val (.ref a1), .val (.int 0), .val (.int 3), .val (.ref b2), .val (.int 0), .val (.ref b23)] [(.ref b23)])) := by
      intro t kt
      refine pre36 t ?_
      refine XS.sipush X34.here hx rfl (hb hby d7_35) ?_
      refine XS.icmpYes X34.here hx rfl (pc0 := 38) (pc' := 54) rfl (hb hby d7_38) rfl (tlt hg).2.2.1 (by decide) (by decide) ?_
      refine XS.aload X34.here hx rfl (hb hby d7_54) rfl rfl ?_
      exact kt
    obtain ⟨fs, hr, hrun, hended, hW, hsame⟩ := X34.leave (v := some (.ref b23)) (fun h => by rw [Bd.returns] at h; cases h)
    refine ⟨_, _, fin _ (pre37 _ ?_), hrun, hended, _, _, rfl, ?_, ⟨_, rfl⟩, hW, hsame.mono (by decide) (by decide)⟩
    · jvm_step X34.here [X34.here.top, hx, (hb hby d7_56), X34.method', Bd.returns, Value.isRef, FieldType.isReference]
      first | (intro acts; rw [hr _ acts rfl rfl rfl]) | rw [hr _ _ rfl rfl rfl]
      exact Steps.refl _
    · show Qcmp3_3 Z a1 kc c0 c1 c2 h0 n0 _ T34.heap _
      rw [eq34]
      exact ⟨b23, kb24, rfl, N34, kc31, sz29, (Or.inr ⟨⟨own_fitAt VC 0 (by decide) rfl, ⟨own_fitAt VC 1 (by decide) rfl, ⟨own_fitAt VC 2 (by decide) rfl, trivial⟩⟩⟩, g26⟩)⟩
  · have pre38 : own_Go p e below S0 (T10.setTop (mkF m 12 #[.val (.ref a1), .val (.int 0), .val (.int 3), .val (.ref b2), .unset, .unset] [(.int 1)])) := by
      intro t kt
      refine pre15 t ?_
      rw [hr]
      exact kt
    have pre39 : own_Go p e below S0 (T10.setTop (mkF m 23 #[.val (.ref a1), .val (.int 0), .val (.int 3), .val (.ref b2), .val (.int 1), .unset] [(.int 3), (.int 0), (.ref a1)])) := by
      intro t kt
      refine pre38 t ?_
      refine XS.istore X10.here hx rfl (hb hby d7_12) rfl (l' := #[.val (.ref a1), .val (.int 0), .val (.int 3), .val (.ref b2), .val (.int 1), .unset]) rfl ?_
      refine XS.iload X10.here hx rfl (hb hby d7_14) rfl ?_
      refine XS.iloadN X10.here hx rfl (hb hby d7_16) rfl ?_
      refine XS.icmpNo X10.here hx rfl (hb hby d7_17) rfl (feq (by decide : ¬ ((1 : Int32) = (3 : Int32)))).1 ?_
      refine XS.aloadN X10.here hx rfl (hb hby d7_20) rfl rfl ?_
      refine XS.iloadN X10.here hx rfl (hb hby d7_21) rfl ?_
      show Steps p.tables e below (T10.setTop (mkF m 22 #[.val (.ref a1), .val (.int 0), .val (.int 3), .val (.ref b2), .val (.int 1), .unset] [(.int 0), (.ref a1)])) _
      refine XS.iloadN X10.here hx rfl (hb hby d7_22) rfl ?_
      exact kt
    have f40 : Old Z n0 T10.heap := ((O0.ext E2).keep K10 (allS ge4 all0))
    have f41 : Arv Z T10.heap a1 kc .char (3 : Int32) [(.int c0), (.int c1), (.int c2)] (.int 0) := (f9.keep K10 (ninS ne3 nin0))
    obtain ⟨_, _, ⟨T42, L42, k42, n42⟩, -, X42, ⟨Lc42, hQ42, l42, y42, z42⟩, st42⟩ := Jvm.LawKit.callS X10 hx (y := own_m21) hown (mvT hZ (hw _ (own_w 77 rfl))) (mvT hZ (hw _ (own_w 78 rfl))) (mvT hZ (hw _ (own_w 40 rfl))) (mvT hZ (hw _ (own_w 79 rfl))) (by decide) (backOf (W := 0) (rmtoB_3 l Z a0 hw [] a1 kc c0 c1 c2 T10.heap n0 zs13 f40 qU f41) hZ (hw _ (own_w 79 rfl)) (hw _ (own_w 40 rfl)) (by decide) (by decide)) (g := (mkF m 23 #[.val (.ref a1), .val (.int 0), .val (.int 3), .val (.ref b2), .val (.int 1), .unset] [(.int 3), (.int 0), (.ref a1)])) rfl (by rw [hml]; rfl) (argsL := [(.ref a1), (.int 0), (.int 3)]) (rest := []) (lenOf pd_6 rfl) rfl (by show 2 * 0 + _ ≤ _; exact Nat.le_of_eq rfl) (hb hby d7_23) (fun _ _ => ⟨rfl, rfl, (by decide : 1 + 1 ≤ _), (by decide : 3 + 6 ≤ _)⟩)
    dsimp only [Pt.U, Pt.locs, Pt.cells, Pt.slots] at X42 l42 y42 z42 st42 hQ42
    subst l42 y42 z42
    obtain ⟨b43, kb44, rfl, Nq42, K42, g45, g46⟩ := hQ42
    have N42 := Fr.app N10 Nq42
    have ne47 : a1 ≠ b43 := Nat.ne_of_lt (Nat.lt_of_lt_of_le f41.lt g45)
    have ge48 : n0 ≤ b43 := Nat.le_trans zs13 g45
    have sz49 : h0.size ≤ b43 := Nat.le_trans kc14.1 g45
    have zs50 : n0 ≤ T42.heap.size := Nat.le_trans zs13 K42.1
    have kc51 : Keep h0 T42.heap [] := kc14.trans K42 all0
    have pre52 : own_Go p e below S0 (T42.setTop (mkF m 32 #[.val (.ref a1), .val (.int 0), .val (.int 3), .val (.ref b2), .val (.int 1), .val (.ref b43)] [(.int 1), (.ref b43)])) := by
      intro t kt
      refine pre39 t ?_
      refine st42 _ ?_
      show Steps p.tables e below (T42.setTop (mkF m 26 #[.val (.ref a1), .val (.int 0), .val (.int 3), .val (.ref b2), .val (.int 1), .unset] [(.ref b43)])) _
      refine XS.astore X42.here hx rfl (hb hby d7_26) rfl rfl (l' := #[.val (.ref a1), .val (.int 0), .val (.int 3), .val (.ref b2), .val (.int 1), .val (.ref b43)]) rfl ?_
      refine XS.aload X42.here hx rfl (hb hby d7_28) rfl rfl ?_
      refine XS.iload X42.here hx rfl (hb hby d7_30) rfl ?_
      exact kt
    have f53 : Old Z n0 T42.heap := (f40.keep K42 all0)
    obtain ⟨_, _, ⟨T54, L54, k54, n54⟩, -, X54, ⟨Lc54, hQ54, l54, y54, z54⟩, st54⟩ := Jvm.LawKit.callS X42 hx (y := own_m16) hown (mvT hZ (hw _ (own_w 93 rfl))) (mvT hZ (hw _ (own_w 94 rfl))) (mvT hZ (hw _ (own_w 40 rfl))) (mvT hZ (hw _ (own_w 95 rfl))) (by decide) (backOf (W := 0) (rmgetc l Z a0 hw [] b43 (1 : Int32) kb44 (6 : Int32) [(.int (nar .byte ((c0 >>> ((0 : Int32) &&& 31)).toInt8.toInt32))), (.int (nar .byte ((c0 >>> ((8 : Int32) &&& 31)).toInt8.toInt32))), (.int (nar .byte ((c1 >>> ((0 : Int32) &&& 31)).toInt8.toInt32))), (.int (nar .byte ((c1 >>> ((8 : Int32) &&& 31)).toInt8.toInt32))), (.int (nar .byte ((c2 >>> ((0 : Int32) &&& 31)).toInt8.toInt32))), (.int (nar .byte ((c2 >>> ((8 : Int32) &&& 31)).toInt8.toInt32)))] (.int 0) (nar .byte ((c1 >>> ((0 : Int32) &&& 31)).toInt8.toInt32)) (nar .byte ((c1 >>> ((8 : Int32) &&& 31)).toInt8.toInt32)) 2 3 T42.heap n0 zs50 f53 qU g46 (by decide +kernel) (by decide +kernel) (by decide +kernel) rfl (by decide +kernel) (by decide +kernel) (by decide +kernel) rfl) hZ (hw _ (own_w 95 rfl)) (hw _ (own_w 40 rfl)) (by decide) (by decide)) (g := (mkF m 32 #[.val (.ref a1), .val (.int 0), .val (.int 3), .val (.ref b2), .val (.int 1), .val (.ref b43)] [(.int 1), (.ref b43)])) rfl (by rw [hml]; rfl) (argsL := [(.ref b43), (.int 1)]) (rest := []) (lenOf pd_7 rfl) rfl (by show 2 * 0 + _ ≤ _; exact Nat.le_of_eq rfl) (hb hby d7_32) (fun _ _ => ⟨rfl, rfl, (by decide : 2 + 0 ≤ _), (by decide : 9 + 0 ≤ _)⟩)
    dsimp only [Pt.U, Pt.locs, Pt.cells, Pt.slots] at X54 l54 y54 z54 st54 hQ54
    subst l54 y54 z54
    obtain ⟨rfl, Nq54, eq54⟩ := hQ54
    have N54 := Fr.app N42 Nq54
    have pre55 : own_Go p e below S0 (T54.setTop (mkF m 35 #[.val (.ref a1), .val (.int 0), .val (.int 3), .val (.ref b2), .val (.int 1), .val (.ref b43)] [(.int (own_gc (nar .byte ((c1 >>> ((0 : Int32) &&& 31)).toInt8.toInt32)) (nar .byte ((c1 >>> ((8 : Int32) &&& 31)).toInt8.toInt32))))])) := by
      intro t kt
      refine pre52 t ?_
      refine st54 _ ?_
      show Steps p.tables e below (T54.setTop (mkF m 35 #[.val (.ref a1), .val (.int 0), .val (.int 3), .val (.ref b2), .val (.int 1), .val (.ref b43)] [(.int (own_gc (nar .byte ((c1 >>> ((0 : Int32) &&& 31)).toInt8.toInt32)) (nar .byte ((c1 >>> ((8 : Int32) &&& 31)).toInt8.toInt32))))])) _
      exact kt
    have pre56 : own_Go p e below S0 (T54.setTop (mkF m 35 #[.val (.ref a1), .val (.int 0), .val (.int 3), .val (.ref b2), .val (.int 1), .val (.ref b43)] [(.int c1)])) := by
      intro t kt
      refine pre55 t ?_
      rw [own_utfget c1 (own_fitAt VC 1 (by decide) rfl)]
      exact kt
    have pre57 : own_Go p e below S0 (T54.setTop (mkF m 56 #[.val (.ref a1), .val (.int 0), .val (.int 3), .val (.ref b2), .val (.int 1), .val (.ref b43)] [(.ref b43)])) := by
      intro t kt
      refine pre56 t ?_
      refine XS.sipush X54.here hx rfl (hb hby d7_35) ?_
      refine XS.icmpYes X54.here hx rfl (pc0 := 38) (pc' := 54) rfl (hb hby d7_38) rfl (tlt hg).2.2.1 (by decide) (by decide) ?_
      refine XS.aload X54.here hx rfl (hb hby d7_54) rfl rfl ?_
      exact kt
    obtain ⟨fs, hr, hrun, hended, hW, hsame⟩ := X54.leave (v := some (.ref b43)) (fun h => by rw [Bd.returns] at h; cases h)
    refine ⟨_, _, fin _ (pre57 _ ?_), hrun, hended, _, _, rfl, ?_, ⟨_, rfl⟩, hW, hsame.mono (by decide) (by decide)⟩
    · jvm_step X54.here [X54.here.top, hx, (hb hby d7_56), X54.method', Bd.returns, Value.isRef, FieldType.isReference]
      first | (intro acts; rw [hr _ acts rfl rfl rfl]) | rw [hr _ _ rfl rfl rfl]
      exact Steps.refl _
    · show Qcmp3_3 Z a1 kc c0 c1 c2 h0 n0 _ T54.heap _
      rw [eq54]
      exact ⟨b43, kb44, rfl, N54, kc51, sz49, (Or.inr ⟨⟨own_fitAt VC 0 (by decide) rfl, ⟨own_fitAt VC 1 (by decide) rfl, ⟨own_fitAt VC 2 (by decide) rfl, trivial⟩⟩⟩, g46⟩)⟩
  · have pre58 : own_Go p e below S0 (T10.setTop (mkF m 12 #[.val (.ref a1), .val (.int 0), .val (.int 3), .val (.ref b2), .unset, .unset] [(.int 2)])) := by
      intro t kt
      refine pre15 t ?_
      rw [hr]
      exact kt
    have pre59 : own_Go p e below S0 (T10.setTop (mkF m 23 #[.val (.ref a1), .val (.int 0), .val (.int 3), .val (.ref b2), .val (.int 2), .unset] [(.int 3), (.int 0), (.ref a1)])) := by
      intro t kt
      refine pre58 t ?_
      refine XS.istore X10.here hx rfl (hb hby d7_12) rfl (l' := #[.val (.ref a1), .val (.int 0), .val (.int 3), .val (.ref b2), .val (.int 2), .unset]) rfl ?_
      refine XS.iload X10.here hx rfl (hb hby d7_14) rfl ?_
      refine XS.iloadN X10.here hx rfl (hb hby d7_16) rfl ?_
      refine XS.icmpNo X10.here hx rfl (hb hby d7_17) rfl (feq (by decide : ¬ ((2 : Int32) = (3 : Int32)))).1 ?_
      refine XS.aloadN X10.here hx rfl (hb hby d7_20) rfl rfl ?_
      refine XS.iloadN X10.here hx rfl (hb hby d7_21) rfl ?_
      show Steps p.tables e below (T10.setTop (mkF m 22 #[.val (.ref a1), .val (.int 0), .val (.int 3), .val (.ref b2), .val (.int 2), .unset] [(.int 0), (.ref a1)])) _
      refine XS.iloadN X10.here hx rfl (hb hby d7_22) rfl ?_
      exact kt
    have f60 : Old Z n0 T10.heap := ((O0.ext E2).keep K10 (allS ge4 all0))
    have f61 : Arv Z T10.heap a1 kc .char (3 : Int32) [(.int c0), (.int c1), (.int c2)] (.int 0) := (f9.keep K10 (ninS ne3 nin0))
    obtain ⟨_, _, ⟨T62, L62, k62, n62⟩, -, X62, ⟨Lc62, hQ62, l62, y62, z62⟩, st62⟩ := Jvm.LawKit.callS X10 hx (y := own_m21) hown (mvT hZ (hw _ (own_w 77 rfl))) (mvT hZ (hw _ (own_w 78 rfl))) (mvT hZ (hw _ (own_w 40 rfl))) (mvT hZ (hw _ (own_w 79 rfl))) (by decide) (backOf (W := 0) (rmtoB_3 l Z a0 hw [] a1 kc c0 c1 c2 T10.heap n0 zs13 f60 qU f61) hZ (hw _ (own_w 79 rfl)) (hw _ (own_w 40 rfl)) (by decide) (by decide)) (g := (mkF m 23 #[.val (.ref a1), .val (.int 0), .val (.int 3), .val (.ref b2), .val (.int 2), .unset] [(.int 3), (.int 0), (.ref a1)])) rfl (by rw [hml]; rfl) (argsL := [(.ref a1), (.int 0), (.int 3)]) (rest := []) (lenOf pd_6 rfl) rfl (by show 2 * 0 + _ ≤ _; exact Nat.le_of_eq rfl) (hb hby d7_23) (fun _ _ => ⟨rfl, rfl, (by decide : 1 + 1 ≤ _), (by decide : 3 + 6 ≤ _)⟩)
    dsimp only [Pt.U, Pt.locs, Pt.cells, Pt.slots] at X62 l62 y62 z62 st62 hQ62
    subst l62 y62 z62
    obtain ⟨b63, kb64, rfl, Nq62, K62, g65, g66⟩ := hQ62
    have N62 := Fr.app N10 Nq62
    have ne67 : a1 ≠ b63 := Nat.ne_of_lt (Nat.lt_of_lt_of_le f61.lt g65)
    have ge68 : n0 ≤ b63 := Nat.le_trans zs13 g65
    have sz69 : h0.size ≤ b63 := Nat.le_trans kc14.1 g65
    have zs70 : n0 ≤ T62.heap.size := Nat.le_trans zs13 K62.1
    have kc71 : Keep h0 T62.heap [] := kc14.trans K62 all0
    have pre72 : own_Go p e below S0 (T62.setTop (mkF m 32 #[.val (.ref a1), .val (.int 0), .val (.int 3), .val (.ref b2), .val (.int 2), .val (.ref b63)] [(.int 2), (.ref b63)])) := by
      intro t kt
      refine pre59 t ?_
      refine st62 _ ?_
      show Steps p.tables e below (T62.setTop (mkF m 26 #[.val (.ref a1), .val (.int 0), .val (.int 3), .val (.ref b2), .val (.int 2), .unset] [(.ref b63)])) _
      refine XS.astore X62.here hx rfl (hb hby d7_26) rfl rfl (l' := #[.val (.ref a1), .val (.int 0), .val (.int 3), .val (.ref b2), .val (.int 2), .val (.ref b63)]) rfl ?_
      refine XS.aload X62.here hx rfl (hb hby d7_28) rfl rfl ?_
      refine XS.iload X62.here hx rfl (hb hby d7_30) rfl ?_
      exact kt
    have f73 : Old Z n0 T62.heap := (f60.keep K62 all0)
    obtain ⟨_, _, ⟨T74, L74, k74, n74⟩, -, X74, ⟨Lc74, hQ74, l74, y74, z74⟩, st74⟩ := Jvm.LawKit.callS X62 hx (y := own_m16) hown (mvT hZ (hw _ (own_w 93 rfl))) (mvT hZ (hw _ (own_w 94 rfl))) (mvT hZ (hw _ (own_w 40 rfl))) (mvT hZ (hw _ (own_w 95 rfl))) (by decide) (backOf (W := 0) (rmgetc l Z a0 hw [] b63 (2 : Int32) kb64 (6 : Int32) [(.int (nar .byte ((c0 >>> ((0 : Int32) &&& 31)).toInt8.toInt32))), (.int (nar .byte ((c0 >>> ((8 : Int32) &&& 31)).toInt8.toInt32))), (.int (nar .byte ((c1 >>> ((0 : Int32) &&& 31)).toInt8.toInt32))), (.int (nar .byte ((c1 >>> ((8 : Int32) &&& 31)).toInt8.toInt32))), (.int (nar .byte ((c2 >>> ((0 : Int32) &&& 31)).toInt8.toInt32))), (.int (nar .byte ((c2 >>> ((8 : Int32) &&& 31)).toInt8.toInt32)))] (.int 0) (nar .byte ((c2 >>> ((0 : Int32) &&& 31)).toInt8.toInt32)) (nar .byte ((c2 >>> ((8 : Int32) &&& 31)).toInt8.toInt32)) 4 5 T62.heap n0 zs70 f73 qU g66 (by decide +kernel) (by decide +kernel) (by decide +kernel) rfl (by decide +kernel) (by decide +kernel) (by decide +kernel) rfl) hZ (hw _ (own_w 95 rfl)) (hw _ (own_w 40 rfl)) (by decide) (by decide)) (g := (mkF m 32 #[.val (.ref a1), .val (.int 0), .val (.int 3), .val (.ref b2), .val (.int 2), .val (.ref b63)] [(.int 2), (.ref b63)])) rfl (by rw [hml]; rfl) (argsL := [(.ref b63), (.int 2)]) (rest := []) (lenOf pd_7 rfl) rfl (by show 2 * 0 + _ ≤ _; exact Nat.le_of_eq rfl) (hb hby d7_32) (fun _ _ => ⟨rfl, rfl, (by decide : 2 + 0 ≤ _), (by decide : 9 + 0 ≤ _)⟩)
    dsimp only [Pt.U, Pt.locs, Pt.cells, Pt.slots] at X74 l74 y74 z74 st74 hQ74
    subst l74 y74 z74
    obtain ⟨rfl, Nq74, eq74⟩ := hQ74
    have N74 := Fr.app N62 Nq74
    have pre75 : own_Go p e below S0 (T74.setTop (mkF m 35 #[.val (.ref a1), .val (.int 0), .val (.int 3), .val (.ref b2), .val (.int 2), .val (.ref b63)] [(.int (own_gc (nar .byte ((c2 >>> ((0 : Int32) &&& 31)).toInt8.toInt32)) (nar .byte ((c2 >>> ((8 : Int32) &&& 31)).toInt8.toInt32))))])) := by
      intro t kt
      refine pre72 t ?_
      refine st74 _ ?_
      show Steps p.tables e below (T74.setTop (mkF m 35 #[.val (.ref a1), .val (.int 0), .val (.int 3), .val (.ref b2), .val (.int 2), .val (.ref b63)] [(.int (own_gc (nar .byte ((c2 >>> ((0 : Int32) &&& 31)).toInt8.toInt32)) (nar .byte ((c2 >>> ((8 : Int32) &&& 31)).toInt8.toInt32))))])) _
      exact kt
    have pre76 : own_Go p e below S0 (T74.setTop (mkF m 35 #[.val (.ref a1), .val (.int 0), .val (.int 3), .val (.ref b2), .val (.int 2), .val (.ref b63)] [(.int c2)])) := by
      intro t kt
      refine pre75 t ?_
      rw [own_utfget c2 (own_fitAt VC 2 (by decide) rfl)]
      exact kt
    have pre77 : own_Go p e below S0 (T74.setTop (mkF m 56 #[.val (.ref a1), .val (.int 0), .val (.int 3), .val (.ref b2), .val (.int 2), .val (.ref b63)] [(.ref b63)])) := by
      intro t kt
      refine pre76 t ?_
      refine XS.sipush X74.here hx rfl (hb hby d7_35) ?_
      refine XS.icmpYes X74.here hx rfl (pc0 := 38) (pc' := 54) rfl (hb hby d7_38) rfl (tlt hg).2.2.1 (by decide) (by decide) ?_
      refine XS.aload X74.here hx rfl (hb hby d7_54) rfl rfl ?_
      exact kt
    obtain ⟨fs, hr, hrun, hended, hW, hsame⟩ := X74.leave (v := some (.ref b63)) (fun h => by rw [Bd.returns] at h; cases h)
    refine ⟨_, _, fin _ (pre77 _ ?_), hrun, hended, _, _, rfl, ?_, ⟨_, rfl⟩, hW, hsame.mono (by decide) (by decide)⟩
    · jvm_step X74.here [X74.here.top, hx, (hb hby d7_56), X74.method', Bd.returns, Value.isRef, FieldType.isReference]
      first | (intro acts; rw [hr _ acts rfl rfl rfl]) | rw [hr _ _ rfl rfl rfl]
      exact Steps.refl _
    · show Qcmp3_3 Z a1 kc c0 c1 c2 h0 n0 _ T74.heap _
      rw [eq74]
      exact ⟨b63, kb64, rfl, N74, kc71, sz69, (Or.inr ⟨⟨own_fitAt VC 0 (by decide) rfl, ⟨own_fitAt VC 1 (by decide) rfl, ⟨own_fitAt VC 2 (by decide) rfl, trivial⟩⟩⟩, g66⟩)⟩

theorem ef_init4_3 (m : MethodId) (x0 : Addr) (x1 : Addr) : entryFrame m #[(.ref x0), (.ref x1), (.int 0), (.int 3), .null] 6 = mkF m 0 #[.val (.ref x0), .val (.ref x1), .val (.int 0), .val (.int 3), .val .null, .unset] [] := by first | (simp [entryFrame, mkF, argsToLocals, Value.category]; done) | rfl
def Qinit4_3 (Z : State) (a1 : Addr) (a2 : Addr) (kc : ClassId) (c0 : Int32) (c1 : Int32) (c2 : Int32) (wC : Int32) (h0 : Heap) (n0 : Nat) (v : Option Value) (h : Heap) (L : List Loc) : Prop := ∃ vb : Addr, ∃ kb : ClassId, v = none ∧ Fr n0 L ∧ Keep h0 h [a1] ∧ h0.size ≤ vb ∧ own_Str Z h a1 vb kb [c0, c1, c2]
set_option maxRecDepth 65536 in
set_option maxHeartbeats 40000000 in
theorem rminit4_3 (l : Launch) (Z : State) (a0 : Array Value) (hw : ∀ d ∈ tables_1, d.before a0 Z = true) (ws : List Jvm.Cond) (a1 : Addr) (a2 : Addr) (kc : ClassId) (c0 : Int32) (c1 : Int32) (c2 : Int32) (wC : Int32) (h0 : Heap) (n0 : Nat) (Z0 : n0 ≤ h0.size) (O0 : Old Z n0 h0) (qC : (own_SC Z wC)) (qU : (own_SU Z)) (E1 : Exa Z h0 a1 "java/lang/String") (F1 : Fld Z h0 a1 "java/lang/String" "value" "[B" .null) (F2 : Fld Z h0 a1 "java/lang/String" "coder" "B" (.int 0)) (g1 : n0 ≤ a1) (VC : Arv Z h0 a2 kc .char (3 : Int32) [(.int c0), (.int c1), (.int c2)] (.int 0)) :
    MetFree l own_m4 (head1 (Jvm.Cond.code own_m4 jdk_42_method_149_code 6 none :: ws) (own_r 4 2 9 57)) (fun a U => a = #[(.ref a1), (.ref a2), (.int 0), (.int 3), .null] ∧ Z.Warmed39 U.vm ∧ U.heap = h0) (fun _ _ _ _ _ => True) (fun _ U o U' => ∃ v L, o = .returned v ∧ Qinit4_3 Z a1 a2 kc c0 c1 c2 wC h0 n0 v U'.heap L ∧ FrameEnd U o U' L (own_r 4 2 9 57).cells (own_r 4 2 9 57).slots) := by
  refine MetFree.of_bodySF (plainFor_of_name pn_2) hisR ?_
  intro p e s m args below meth c s₁ Bd hml0 hP hK
  obtain ⟨rfl, hZ, hh⟩ := hP
  have hx := Bd.exec
  have hby := Bd.bytes
  have hml : c.maxLocals = 6 := hml0
  have hown0 := findClass_of_methodNamed Bd.named
  have hown : s.vm.findClass "java/lang/String" = some m.cls := hown0
  have hnm := (name_of_methodNamed Bd.named Bd.method).1
  have X0 : Stand p l e (own_r 4 2 9 57) s m #[(.ref a1), (.ref a2), (.int 0), (.int 3), .null] below meth c s₁ [] 0 0 := Stand.of_body Bd
  have e0 : s₁.heap = h0 := by rw [← hh, Bd.state]; rfl
  have N0 := Fr.nil n0
  obtain ⟨S0, hS0⟩ : ∃ z, z = s₁.setTop (entryFrame m #[(.ref a1), (.ref a2), (.int 0), (.int 3), .null] 6) := ⟨_, rfl⟩
  have pre0 : own_Go p e below S0 (s₁.setTop (mkF m 0 #[.val (.ref a1), .val (.ref a2), .val (.int 0), .val (.int 3), .val .null, .unset] [])) := fun t k => by rw [hS0]; exact castTop (ef_init4_3 m a1 a2) k
  have fin : ∀ t, Steps p.tables e below S0 t → Steps p.tables e below (s₁.setTop (entryFrame m #[(.ref a1), (.ref a2), (.int 0), (.int 3), .null] 6)) t := fun t k => by rw [hS0] at k; exact k
  have kc0 : Keep h0 h0 [a1] := Keep.refl _ _
  have pre1 : own_Go p e below S0 (s₁.setTop (mkF m 1 #[.val (.ref a1), .val (.ref a2), .val (.int 0), .val (.int 3), .val .null, .unset] [(.ref a1)])) := by
    intro t kt
    refine pre0 t ?_
    refine XS.aloadN X0.here hx rfl (hb hby d2_0) rfl rfl ?_
    exact kt
  obtain ⟨T2, X2, e2, st2⟩ := initO X0 hx hZ hown (hw _ (own_w 12 rfl)) (hw _ (own_w 13 rfl)) (hw _ (own_w 14 rfl)) e0 (g := (mkF m 1 #[.val (.ref a1), .val (.ref a2), .val (.int 0), .val (.int 3), .val .null, .unset] [(.ref a1)])) rfl (by rw [hml]; rfl) rfl (hb hby d2_1) (by decide) (W := 0) (by show 2 * 0 + _ ≤ _; exact Nat.le_of_eq rfl) (by decide)
  have pre3 : own_Go p e below S0 (T2.setTop (mkF m 27 #[.val (.ref a1), .val (.ref a2), .val (.int 0), .val (.int 3), .val .null, .unset] [])) := by
    intro t kt
    refine pre1 t ?_
    refine st2 _ ?_
    refine XS.iloadN X2.here hx rfl (hb hby d2_4) rfl ?_
    refine XS.ifYes X2.here hx rfl (pc0 := 5) (pc' := 27) rfl (hb hby d2_5) rfl ((if0 _ _).trans (feq (by decide : ¬ ((3 : Int32) = (0 : Int32)))).2) (by decide) (by decide) ?_
    exact kt
  obtain ⟨T4, X4, e4, st4⟩ := getS2 X2 hx hZ hown (host := "") (Or.inl (hw _ (own_w 37 rfl))) Via.refl e2 (qC.1.ext O0.2) (g := (mkF m 27 #[.val (.ref a1), .val (.ref a2), .val (.int 0), .val (.int 3), .val .null, .unset] [])) rfl (hb hby d2_27)
  have pre5 : own_Go p e below S0 (T4.setTop (mkF m 36 #[.val (.ref a1), .val (.ref a2), .val (.int 0), .val (.int 3), .val .null, .unset] [(.int 3), (.int 0), (.ref a2)])) := by
    intro t kt
    refine pre3 t ?_
    refine st4 _ ?_
    refine XS.ifNo X4.here hx rfl (hb hby d2_30) rfl ((if0 _ _).trans (feq qC.2).1) ?_
    refine XS.aloadN X4.here hx rfl (hb hby d2_33) rfl rfl ?_
    refine XS.iloadN X4.here hx rfl (hb hby d2_34) rfl ?_
    refine XS.iloadN X4.here hx rfl (hb hby d2_35) rfl ?_
    exact kt
  obtain ⟨_, _, ⟨T6, L6, k6, n6⟩, -, X6, ⟨Lc6, hQ6, l6, y6, z6⟩, st6⟩ := Jvm.LawKit.callS X4 hx (y := own_m14) hown (mvT hZ (hw _ (own_w 38 rfl))) (mvT hZ (hw _ (own_w 39 rfl))) (mvT hZ (hw _ (own_w 40 rfl))) (mvT hZ (hw _ (own_w 41 rfl))) (by decide) (backOf (W := 0) (rmcmp3_3 l Z a0 hw [] a2 kc c0 c1 c2 h0 n0 Z0 O0 qU VC) hZ (hw _ (own_w 41 rfl)) (hw _ (own_w 40 rfl)) (by decide) (by decide)) (g := (mkF m 36 #[.val (.ref a1), .val (.ref a2), .val (.int 0), .val (.int 3), .val .null, .unset] [(.int 3), (.int 0), (.ref a2)])) rfl (by rw [hml]; rfl) (argsL := [(.ref a2), (.int 0), (.int 3)]) (rest := []) (lenOf pd_6 rfl) rfl (by show 2 * 0 + _ ≤ _; exact Nat.le_of_eq rfl) (hb hby d2_36) (fun _ _ => ⟨rfl, e4, (by decide : 0 + 2 ≤ _), (by decide : 0 + 9 ≤ _)⟩)
  dsimp only [Pt.U, Pt.locs, Pt.cells, Pt.slots] at X6 l6 y6 z6 st6 hQ6
  subst l6 y6 z6
  obtain ⟨b7, kb8, rfl, Nq6, K6, g9, g10⟩ := hQ6
  have N6 := Fr.app N0 Nq6
  have ne11 : a1 ≠ b7 := Nat.ne_of_lt (Nat.lt_of_lt_of_le E1.lt g9)
  have ne12 : a2 ≠ b7 := Nat.ne_of_lt (Nat.lt_of_lt_of_le VC.lt g9)
  have ge13 : n0 ≤ b7 := Nat.le_trans Z0 g9
  have sz14 : h0.size ≤ b7 := Nat.le_trans kc0.1 g9
  have zs15 : n0 ≤ T6.heap.size := Nat.le_trans Z0 K6.1
  have kc16 : Keep h0 T6.heap [a1] := kc0.trans K6 all0
  have pre17 : own_Go p e below S0 (T6.setTop (mkF m 39 #[.val (.ref a1), .val (.ref a2), .val (.int 0), .val (.int 3), .val .null, .unset] [(.ref b7)])) := by
    intro t kt
    refine pre5 t ?_
    refine st6 _ ?_
    show Steps p.tables e below (T6.setTop (mkF m 39 #[.val (.ref a1), .val (.ref a2), .val (.int 0), .val (.int 3), .val .null, .unset] [(.ref b7)])) _
    exact kt
  obtain ⟨hl, hv⟩ | ⟨hl, hv⟩ := g10
  · have pre18 : own_Go p e below S0 (T6.setTop (mkF m 45 #[.val (.ref a1), .val (.ref a2), .val (.int 0), .val (.int 3), .val .null, .val (.ref b7)] [(.int 3), (.ref b7), (.ref a1)])) := by
      intro t kt
      refine pre17 t ?_
      refine XS.astore X6.here hx rfl (hb hby d2_39) rfl rfl (l' := #[.val (.ref a1), .val (.ref a2), .val (.int 0), .val (.int 3), .val .null, .val (.ref b7)]) rfl ?_
      refine XS.aloadN X6.here hx rfl (hb hby d2_41) rfl rfl ?_
      refine XS.aload X6.here hx rfl (hb hby d2_42) rfl rfl ?_
      refine XS.iloadN X6.here hx rfl (hb hby d2_44) rfl ?_
      exact kt
    obtain ⟨_, _, ⟨T19, L19, k19, n19⟩, -, X19, ⟨Lc19, hQ19, l19, y19, z19⟩, st19⟩ := Jvm.LawKit.callS X6 hx (y := own_m13) hown (mvT hZ (hw _ (own_w 45 rfl))) (mvT hZ (hw _ (own_w 46 rfl))) (mvT hZ (hw _ (own_w 40 rfl))) (mvT hZ (hw _ (own_w 47 rfl))) (by decide) (backOf (W := 1) (rmcofa l Z a0 hw [] b7 (3 : Int32) kb8 (3 : Int32) [(.int (nar .byte (c0.toInt8.toInt32))), (.int (nar .byte (c1.toInt8.toInt32))), (.int (nar .byte (c2.toInt8.toInt32)))] (.int 0) T6.heap n0 zs15 hv) hZ (hw _ (own_w 47 rfl)) (hw _ (own_w 40 rfl)) (by decide) (by decide)) (g := (mkF m 45 #[.val (.ref a1), .val (.ref a2), .val (.int 0), .val (.int 3), .val .null, .val (.ref b7)] [(.int 3), (.ref b7), (.ref a1)])) rfl (by rw [hml]; rfl) (argsL := [(.ref b7), (.int 3)]) (rest := [(.ref a1)]) (lenOf pd_8 rfl) rfl (by show 2 * 0 + _ ≤ _; exact Nat.le_of_eq rfl) (hb hby d2_45) (fun _ _ => ⟨rfl, rfl, (by decide : 2 + 0 ≤ _), (by decide : 9 + 0 ≤ _)⟩)
    dsimp only [Pt.U, Pt.locs, Pt.cells, Pt.slots] at X19 l19 y19 z19 st19 hQ19
    subst l19 y19 z19
    obtain ⟨rfl, Nq19, eq19⟩ := hQ19
    have N19 := Fr.app N6 Nq19
    have pre20 : own_Go p e below S0 (T19.setTop (mkF m 48 #[.val (.ref a1), .val (.ref a2), .val (.int 0), .val (.int 3), .val .null, .val (.ref b7)] [(.int (own_cofa (3 : Int32) (3 : Int32))), (.ref a1)])) := by
      intro t kt
      refine pre18 t ?_
      refine st19 _ ?_
      show Steps p.tables e below (T19.setTop (mkF m 48 #[.val (.ref a1), .val (.ref a2), .val (.int 0), .val (.int 3), .val .null, .val (.ref b7)] [(.int (own_cofa (3 : Int32) (3 : Int32))), (.ref a1)])) _
      exact kt
    have pre21 : own_Go p e below S0 (T19.setTop (mkF m 48 #[.val (.ref a1), .val (.ref a2), .val (.int 0), .val (.int 3), .val .null, .val (.ref b7)] [(.int 0), (.ref a1)])) := by
      intro t kt
      refine pre20 t ?_
      rw [(by decide : (own_cofa (3 : Int32) (3 : Int32)) = (0 : Int32))]
      exact kt
    have f22 : Fld Z T6.heap a1 "java/lang/String" "coder" "B" (.int 0) := (F2.keep K6 nin0)
    have f23 : Exa Z T6.heap a1 "java/lang/String" := (E1.keep K6)
    obtain ⟨T24, h24, X24, e24, W24, st24⟩ := putFN X19 hx hZ hown (hw _ (own_w 22 rfl)) Via.refl eq19 f22 f23 (Or.inr ⟨(hw _ (own_w 18 rfl)), rfl, hnm⟩) (hw _ (own_w 3 rfl)) (ty := .byte) (v' := (.int 0)) (by decide) rfl (by decide) (g := (mkF m 48 #[.val (.ref a1), .val (.ref a2), .val (.int 0), .val (.int 3), .val .null, .val (.ref b7)] [(.int 0), (.ref a1)])) rfl rfl (hb hby d2_48)
    have N24 := Fr.snoc X24 N19 g1
    have zs25 : n0 ≤ h24.size := Nat.le_trans zs15 (Keep.of_wr W24).1
    have kc26 : Keep h0 h24 [a1] := kc16.wr W24 (Or.inl (List.mem_of_getElem? (i := 0) rfl))
    have fw24 : Fld Z h24 a1 "java/lang/String" "coder" "B" (.int 0) := f22.same W24
    have pre27 : own_Go p e below S0 (T24.setTop (mkF m 54 #[.val (.ref a1), .val (.ref a2), .val (.int 0), .val (.int 3), .val .null, .val (.ref b7)] [(.ref b7), (.ref a1)])) := by
      intro t kt
      refine pre21 t ?_
      refine st24 _ ?_
      refine XS.aloadN X24.here hx rfl (hb hby d2_51) rfl rfl ?_
      refine XS.aload X24.here hx rfl (hb hby d2_52) rfl rfl ?_
      exact kt
    have f28 : Fld Z h24 a1 "java/lang/String" "value" "[B" .null := ((F1.keep K6 nin0).other W24 (Or.inr (slot_ne (Or.inr (hw _ (own_w 17 rfl))) (Or.inr (hw _ (own_w 18 rfl))) (by decide) (t := (.array .byte)) (t' := .byte) (by decide) (by decide))))
    have f29 : Exa Z h24 a1 "java/lang/String" := (f23.wr W24)
    obtain ⟨T30, h30, X30, e30, W30, st30⟩ := putF X24 hx hZ hown (host := "") (Or.inl (hw _ (own_w 21 rfl))) Via.refl e24 f28 f29 (Or.inr ⟨(hw _ (own_w 17 rfl)), rfl, hnm⟩) (hw _ (own_w 3 rfl)) (ty := (.array .byte)) (by decide) rfl rfl (g := (mkF m 54 #[.val (.ref a1), .val (.ref a2), .val (.int 0), .val (.int 3), .val .null, .val (.ref b7)] [(.ref b7), (.ref a1)])) rfl rfl (hb hby d2_54)
    have N30 := Fr.snoc X30 N24 g1
    have zs31 : n0 ≤ h30.size := Nat.le_trans zs25 (Keep.of_wr W30).1
    have kc32 : Keep h0 h30 [a1] := kc26.wr W30 (Or.inl (List.mem_of_getElem? (i := 0) rfl))
    have fw30 : Fld Z h30 a1 "java/lang/String" "value" "[B" (.ref b7) := f28.same W30
    have pre33 : own_Go p e below S0 (T30.setTop (mkF m 57 #[.val (.ref a1), .val (.ref a2), .val (.int 0), .val (.int 3), .val .null, .val (.ref b7)] [])) := by
      intro t kt
      refine pre27 t ?_
      refine st30 _ ?_
      exact kt
    have f34 : Exa Z h30 a1 "java/lang/String" := (f29.wr W30)
    have f35 : Fld Z h30 a1 "java/lang/String" "coder" "B" (.int 0) := (fw24.other W30 (Or.inr (slot_ne (Or.inr (hw _ (own_w 18 rfl))) (Or.inr (hw _ (own_w 17 rfl))) (by decide) (t := .byte) (t' := (.array .byte)) (by decide) (by decide))))
    have f36 : Arv Z h30 b7 kb8 .byte (3 : Int32) [(.int (nar .byte (c0.toInt8.toInt32))), (.int (nar .byte (c1.toInt8.toInt32))), (.int (nar .byte (c2.toInt8.toInt32)))] (.int 0) := ((hv.other W24 (Ne.symm ne11)).other W30 (Ne.symm ne11))
    obtain ⟨fs, hr, hrun, hended, hW, hsame⟩ := X30.leave (v := none) (fun _ => rfl)
    refine ⟨_, _, fin _ (pre33 _ ?_), hrun, hended, _, _, rfl, ?_, ⟨_, rfl⟩, hW, hsame.mono (by decide) (by decide)⟩
    · exact X30.returnOut hx Bd.returns (hb hby d2_57) hr
    · show Qinit4_3 Z a1 a2 kc c0 c1 c2 wC h0 n0 _ T30.heap _
      rw [e30]
      exact ⟨b7, kb8, rfl, N30, kc32, sz14, ⟨f34, fw30, Or.inl ⟨f35, hl, f36⟩⟩⟩
  · have pre37 : own_Go p e below S0 (T6.setTop (mkF m 45 #[.val (.ref a1), .val (.ref a2), .val (.int 0), .val (.int 3), .val .null, .val (.ref b7)] [(.int 3), (.ref b7), (.ref a1)])) := by
      intro t kt
      refine pre17 t ?_
      refine XS.astore X6.here hx rfl (hb hby d2_39) rfl rfl (l' := #[.val (.ref a1), .val (.ref a2), .val (.int 0), .val (.int 3), .val .null, .val (.ref b7)]) rfl ?_
      refine XS.aloadN X6.here hx rfl (hb hby d2_41) rfl rfl ?_
      refine XS.aload X6.here hx rfl (hb hby d2_42) rfl rfl ?_
      refine XS.iloadN X6.here hx rfl (hb hby d2_44) rfl ?_
      exact kt
    obtain ⟨_, _, ⟨T38, L38, k38, n38⟩, -, X38, ⟨Lc38, hQ38, l38, y38, z38⟩, st38⟩ := Jvm.LawKit.callS X6 hx (y := own_m13) hown (mvT hZ (hw _ (own_w 45 rfl))) (mvT hZ (hw _ (own_w 46 rfl))) (mvT hZ (hw _ (own_w 40 rfl))) (mvT hZ (hw _ (own_w 47 rfl))) (by decide) (backOf (W := 1) (rmcofa l Z a0 hw [] b7 (3 : Int32) kb8 (6 : Int32) [(.int (nar .byte ((c0 >>> ((0 : Int32) &&& 31)).toInt8.toInt32))), (.int (nar .byte ((c0 >>> ((8 : Int32) &&& 31)).toInt8.toInt32))), (.int (nar .byte ((c1 >>> ((0 : Int32) &&& 31)).toInt8.toInt32))), (.int (nar .byte ((c1 >>> ((8 : Int32) &&& 31)).toInt8.toInt32))), (.int (nar .byte ((c2 >>> ((0 : Int32) &&& 31)).toInt8.toInt32))), (.int (nar .byte ((c2 >>> ((8 : Int32) &&& 31)).toInt8.toInt32)))] (.int 0) T6.heap n0 zs15 hv) hZ (hw _ (own_w 47 rfl)) (hw _ (own_w 40 rfl)) (by decide) (by decide)) (g := (mkF m 45 #[.val (.ref a1), .val (.ref a2), .val (.int 0), .val (.int 3), .val .null, .val (.ref b7)] [(.int 3), (.ref b7), (.ref a1)])) rfl (by rw [hml]; rfl) (argsL := [(.ref b7), (.int 3)]) (rest := [(.ref a1)]) (lenOf pd_8 rfl) rfl (by show 2 * 0 + _ ≤ _; exact Nat.le_of_eq rfl) (hb hby d2_45) (fun _ _ => ⟨rfl, rfl, (by decide : 2 + 0 ≤ _), (by decide : 9 + 0 ≤ _)⟩)
    dsimp only [Pt.U, Pt.locs, Pt.cells, Pt.slots] at X38 l38 y38 z38 st38 hQ38
    subst l38 y38 z38
    obtain ⟨rfl, Nq38, eq38⟩ := hQ38
    have N38 := Fr.app N6 Nq38
    have pre39 : own_Go p e below S0 (T38.setTop (mkF m 48 #[.val (.ref a1), .val (.ref a2), .val (.int 0), .val (.int 3), .val .null, .val (.ref b7)] [(.int (own_cofa (3 : Int32) (6 : Int32))), (.ref a1)])) := by
      intro t kt
      refine pre37 t ?_
      refine st38 _ ?_
      show Steps p.tables e below (T38.setTop (mkF m 48 #[.val (.ref a1), .val (.ref a2), .val (.int 0), .val (.int 3), .val .null, .val (.ref b7)] [(.int (own_cofa (3 : Int32) (6 : Int32))), (.ref a1)])) _
      exact kt
    have pre40 : own_Go p e below S0 (T38.setTop (mkF m 48 #[.val (.ref a1), .val (.ref a2), .val (.int 0), .val (.int 3), .val .null, .val (.ref b7)] [(.int 1), (.ref a1)])) := by
      intro t kt
      refine pre39 t ?_
      rw [(by decide : (own_cofa (3 : Int32) (6 : Int32)) = (1 : Int32))]
      exact kt
    have f41 : Fld Z T6.heap a1 "java/lang/String" "coder" "B" (.int 0) := (F2.keep K6 nin0)
    have f42 : Exa Z T6.heap a1 "java/lang/String" := (E1.keep K6)
    obtain ⟨T43, h43, X43, e43, W43, st43⟩ := putFN X38 hx hZ hown (hw _ (own_w 22 rfl)) Via.refl eq38 f41 f42 (Or.inr ⟨(hw _ (own_w 18 rfl)), rfl, hnm⟩) (hw _ (own_w 3 rfl)) (ty := .byte) (v' := (.int 1)) (by decide) rfl (by decide) (g := (mkF m 48 #[.val (.ref a1), .val (.ref a2), .val (.int 0), .val (.int 3), .val .null, .val (.ref b7)] [(.int 1), (.ref a1)])) rfl rfl (hb hby d2_48)
    have N43 := Fr.snoc X43 N38 g1
    have zs44 : n0 ≤ h43.size := Nat.le_trans zs15 (Keep.of_wr W43).1
    have kc45 : Keep h0 h43 [a1] := kc16.wr W43 (Or.inl (List.mem_of_getElem? (i := 0) rfl))
    have fw43 : Fld Z h43 a1 "java/lang/String" "coder" "B" (.int 1) := f41.same W43
    have pre46 : own_Go p e below S0 (T43.setTop (mkF m 54 #[.val (.ref a1), .val (.ref a2), .val (.int 0), .val (.int 3), .val .null, .val (.ref b7)] [(.ref b7), (.ref a1)])) := by
      intro t kt
      refine pre40 t ?_
      refine st43 _ ?_
      refine XS.aloadN X43.here hx rfl (hb hby d2_51) rfl rfl ?_
      refine XS.aload X43.here hx rfl (hb hby d2_52) rfl rfl ?_
      exact kt
    have f47 : Fld Z h43 a1 "java/lang/String" "value" "[B" .null := ((F1.keep K6 nin0).other W43 (Or.inr (slot_ne (Or.inr (hw _ (own_w 17 rfl))) (Or.inr (hw _ (own_w 18 rfl))) (by decide) (t := (.array .byte)) (t' := .byte) (by decide) (by decide))))
    have f48 : Exa Z h43 a1 "java/lang/String" := (f42.wr W43)
    obtain ⟨T49, h49, X49, e49, W49, st49⟩ := putF X43 hx hZ hown (host := "") (Or.inl (hw _ (own_w 21 rfl))) Via.refl e43 f47 f48 (Or.inr ⟨(hw _ (own_w 17 rfl)), rfl, hnm⟩) (hw _ (own_w 3 rfl)) (ty := (.array .byte)) (by decide) rfl rfl (g := (mkF m 54 #[.val (.ref a1), .val (.ref a2), .val (.int 0), .val (.int 3), .val .null, .val (.ref b7)] [(.ref b7), (.ref a1)])) rfl rfl (hb hby d2_54)
    have N49 := Fr.snoc X49 N43 g1
    have zs50 : n0 ≤ h49.size := Nat.le_trans zs44 (Keep.of_wr W49).1
    have kc51 : Keep h0 h49 [a1] := kc45.wr W49 (Or.inl (List.mem_of_getElem? (i := 0) rfl))
    have fw49 : Fld Z h49 a1 "java/lang/String" "value" "[B" (.ref b7) := f47.same W49
    have pre52 : own_Go p e below S0 (T49.setTop (mkF m 57 #[.val (.ref a1), .val (.ref a2), .val (.int 0), .val (.int 3), .val .null, .val (.ref b7)] [])) := by
      intro t kt
      refine pre46 t ?_
      refine st49 _ ?_
      exact kt
    have f53 : Exa Z h49 a1 "java/lang/String" := (f48.wr W49)
    have f54 : Fld Z h49 a1 "java/lang/String" "coder" "B" (.int 1) := (fw43.other W49 (Or.inr (slot_ne (Or.inr (hw _ (own_w 18 rfl))) (Or.inr (hw _ (own_w 17 rfl))) (by decide) (t := .byte) (t' := (.array .byte)) (by decide) (by decide))))
    have f55 : Arv Z h49 b7 kb8 .byte (6 : Int32) [(.int (nar .byte ((c0 >>> ((0 : Int32) &&& 31)).toInt8.toInt32))), (.int (nar .byte ((c0 >>> ((8 : Int32) &&& 31)).toInt8.toInt32))), (.int (nar .byte ((c1 >>> ((0 : Int32) &&& 31)).toInt8.toInt32))), (.int (nar .byte ((c1 >>> ((8 : Int32) &&& 31)).toInt8.toInt32))), (.int (nar .byte ((c2 >>> ((0 : Int32) &&& 31)).toInt8.toInt32))), (.int (nar .byte ((c2 >>> ((8 : Int32) &&& 31)).toInt8.toInt32)))] (.int 0) := ((hv.other W43 (Ne.symm ne11)).other W49 (Ne.symm ne11))
    obtain ⟨fs, hr, hrun, hended, hW, hsame⟩ := X49.leave (v := none) (fun _ => rfl)
    refine ⟨_, _, fin _ (pre52 _ ?_), hrun, hended, _, _, rfl, ?_, ⟨_, rfl⟩, hW, hsame.mono (by decide) (by decide)⟩
    · exact X49.returnOut hx Bd.returns (hb hby d2_57) hr
    · show Qinit4_3 Z a1 a2 kc c0 c1 c2 wC h0 n0 _ T49.heap _
      rw [e49]
      exact ⟨b7, kb8, rfl, N49, kc51, sz14, ⟨f53, fw49, Or.inr ⟨f54, hl, f55⟩⟩⟩

theorem ef_init1_3 (m : MethodId) (x0 : Addr) (x1 : Addr) : entryFrame m #[(.ref x0), (.ref x1)] 2 = mkF m 0 #[.val (.ref x0), .val (.ref x1)] [] := by first | (simp [entryFrame, mkF, argsToLocals, Value.category]; done) | rfl
def Qinit1_3 (Z : State) (a1 : Addr) (a2 : Addr) (kc : ClassId) (c0 : Int32) (c1 : Int32) (c2 : Int32) (wC : Int32) (h0 : Heap) (n0 : Nat) (v : Option Value) (h : Heap) (L : List Loc) : Prop := ∃ vb : Addr, ∃ kb : ClassId, v = none ∧ Fr n0 L ∧ Keep h0 h [a1] ∧ h0.size ≤ vb ∧ own_Str Z h a1 vb kb [c0, c1, c2]
set_option maxRecDepth 65536 in
set_option maxHeartbeats 40000000 in
theorem rminit1_3 (l : Launch) (Z : State) (a0 : Array Value) (hw : ∀ d ∈ tables_1, d.before a0 Z = true) (ws : List Jvm.Cond) (a1 : Addr) (a2 : Addr) (kc : ClassId) (c0 : Int32) (c1 : Int32) (c2 : Int32) (wC : Int32) (h0 : Heap) (n0 : Nat) (Z0 : n0 ≤ h0.size) (O0 : Old Z n0 h0) (qC : (own_SC Z wC)) (qU : (own_SU Z)) (E1 : Exa Z h0 a1 "java/lang/String") (F1 : Fld Z h0 a1 "java/lang/String" "value" "[B" .null) (F2 : Fld Z h0 a1 "java/lang/String" "coder" "B" (.int 0)) (g1 : n0 ≤ a1) (VC : Arv Z h0 a2 kc .char (3 : Int32) [(.int c0), (.int c1), (.int c2)] (.int 0)) :
    MetFree l own_m3 (head1 (Jvm.Cond.code own_m3 jdk_42_method_3_code 2 none :: ws) (own_r 5 2 9 74)) (fun a U => a = #[(.ref a1), (.ref a2)] ∧ Z.Warmed39 U.vm ∧ U.heap = h0) (fun _ _ _ _ _ => True) (fun _ U o U' => ∃ v L, o = .returned v ∧ Qinit1_3 Z a1 a2 kc c0 c1 c2 wC h0 n0 v U'.heap L ∧ FrameEnd U o U' L (own_r 5 2 9 74).cells (own_r 5 2 9 74).slots) := by
  refine MetFree.of_bodySF (plainFor_of_name pn_1) hisR ?_
  intro p e s m args below meth c s₁ Bd hml0 hP hK
  obtain ⟨rfl, hZ, hh⟩ := hP
  have hx := Bd.exec
  have hby := Bd.bytes
  have hml : c.maxLocals = 2 := hml0
  have hown0 := findClass_of_methodNamed Bd.named
  have hown : s.vm.findClass "java/lang/String" = some m.cls := hown0
  have hnm := (name_of_methodNamed Bd.named Bd.method).1
  have X0 : Stand p l e (own_r 5 2 9 74) s m #[(.ref a1), (.ref a2)] below meth c s₁ [] 0 0 := Stand.of_body Bd
  have e0 : s₁.heap = h0 := by rw [← hh, Bd.state]; rfl
  have N0 := Fr.nil n0
  obtain ⟨S0, hS0⟩ : ∃ z, z = s₁.setTop (entryFrame m #[(.ref a1), (.ref a2)] 2) := ⟨_, rfl⟩
  have pre0 : own_Go p e below S0 (s₁.setTop (mkF m 0 #[.val (.ref a1), .val (.ref a2)] [])) := fun t k => by rw [hS0]; exact castTop (ef_init1_3 m a1 a2) k
  have fin : ∀ t, Steps p.tables e below S0 t → Steps p.tables e below (s₁.setTop (entryFrame m #[(.ref a1), (.ref a2)] 2)) t := fun t k => by rw [hS0] at k; exact k
  have kc0 : Keep h0 h0 [a1] := Keep.refl _ _
  have pre1 : own_Go p e below S0 (s₁.setTop (mkF m 4 #[.val (.ref a1), .val (.ref a2)] [(.ref a2), (.int 0), (.ref a2), (.ref a1)])) := by
    intro t kt
    refine pre0 t ?_
    refine XS.aloadN X0.here hx rfl (hb hby d1_0) rfl rfl ?_
    refine XS.aloadN X0.here hx rfl (hb hby d1_1) rfl rfl ?_
    refine XS.iconst X0.here hx rfl (hb hby d1_2) ?_
    refine XS.aloadN X0.here hx rfl (hb hby d1_3) rfl rfl ?_
    exact kt
  obtain ⟨cl2, Ar2, -, Sz2, Ng2, -, -⟩ := id VC
  have pre3 : own_Go p e below S0 (s₁.setTop (mkF m 6 #[.val (.ref a1), .val (.ref a2)] [.null, (.int 3), (.int 0), (.ref a2), (.ref a1)])) := by
    intro t kt
    refine pre1 t ?_
    refine X0.arraylength hx (by rw [e0]; exact Ar2.1) (State.isArrayOf_alike hZ.alike Ar2.2.1) (g := (mkF m 4 #[.val (.ref a1), .val (.ref a2)] [(.ref a2), (.int 0), (.ref a2), (.ref a1)])) rfl rfl (hb hby d1_4) _ ?_
    rw [len_of Sz2 Ng2]
    show Steps p.tables e below (s₁.setTop (mkF m 5 #[.val (.ref a1), .val (.ref a2)] [(.int 3), (.int 0), (.ref a2), (.ref a1)])) _
    refine XS.aconstNull X0.here hx rfl (hb hby d1_5) ?_
    exact kt
  obtain ⟨_, _, ⟨T4, L4, k4, n4⟩, -, X4, ⟨Lc4, hQ4, l4, y4, z4⟩, st4⟩ := X0.specialBack hx (y := own_m4) rfl hown (mvT hZ (hw _ (own_w 8 rfl))) (mvT hZ (hw _ (own_w 9 rfl))) (mvT hZ (hw _ (own_w 11 rfl))) (by decide) (backOf (W := 0) (rminit4_3 l Z a0 hw [] a1 a2 kc c0 c1 c2 wC h0 n0 Z0 O0 qC qU E1 F1 F2 g1 VC) hZ (hw _ (own_w 11 rfl)) (hw _ (own_w 4 rfl)) (by decide) (by decide)) (g := (mkF m 6 #[.val (.ref a1), .val (.ref a2)] [.null, (.int 3), (.int 0), (.ref a2), (.ref a1)])) rfl (by rw [hml]; rfl) (Steps.refl _) (a := a1) (argsL := [(.ref a2), (.int 0), (.int 3), .null]) (rest := []) (lenOf pd_0 rfl) rfl (by show 2 * 0 + _ ≤ _; exact Nat.le_of_eq rfl) (hb hby d1_6) (fun _ _ => ⟨rfl, e0, (by decide : 0 + 2 ≤ _), (by decide : 0 + 9 ≤ _)⟩)
  dsimp only [Pt.U, Pt.locs, Pt.cells, Pt.slots] at X4 l4 y4 z4 st4 hQ4
  subst l4 y4 z4
  obtain ⟨vb5, kb6, rfl, Nq4, K4, g7, g8⟩ := hQ4
  have N4 := Fr.app N0 Nq4
  have ne9 : a1 ≠ vb5 := Nat.ne_of_lt (Nat.lt_of_lt_of_le E1.lt g7)
  have ne10 : a2 ≠ vb5 := Nat.ne_of_lt (Nat.lt_of_lt_of_le VC.lt g7)
  have ge11 : n0 ≤ vb5 := Nat.le_trans Z0 g7
  have sz12 : h0.size ≤ vb5 := Nat.le_trans kc0.1 g7
  have zs13 : n0 ≤ T4.heap.size := Nat.le_trans Z0 K4.1
  have kc14 : Keep h0 T4.heap [a1] := kc0.trans K4 (allS (Or.inl (List.mem_of_getElem? (i := 0) rfl)) all0)
  have pre15 : own_Go p e below S0 (T4.setTop (mkF m 9 #[.val (.ref a1), .val (.ref a2)] [])) := by
    intro t kt
    refine pre3 t ?_
    refine st4.trans ?_
    show Steps p.tables e below (T4.setTop (mkF m 9 #[.val (.ref a1), .val (.ref a2)] [])) _
    exact kt
  obtain ⟨fs, hr, hrun, hended, hW, hsame⟩ := X4.leave (v := none) (fun _ => rfl)
  refine ⟨_, _, fin _ (pre15 _ ?_), hrun, hended, _, _, rfl, ?_, ⟨_, rfl⟩, hW, hsame.mono (by decide) (by decide)⟩
  · exact X4.returnOut hx Bd.returns (hb hby d1_9) hr
  · show Qinit1_3 Z a1 a2 kc c0 c1 c2 wC h0 n0 _ T4.heap _
    exact ⟨vb5, kb6, rfl, N4, kc14, sz12, g8⟩

theorem ef_cmp5_4 (m : MethodId) (x0 : Addr) (x2 : Addr) : entryFrame m #[(.ref x0), (.int 0), (.ref x2), (.int 0), (.int 4)] 7 = mkF m 0 #[.val (.ref x0), .val (.int 0), .val (.ref x2), .val (.int 0), .val (.int 4), .unset, .unset] [] := by first | (simp [entryFrame, mkF, argsToLocals, Value.category]; done) | rfl
def Qcmp5_4 (Z : State) (a1 : Addr) (a2 : Addr) (kc : ClassId) (kb : ClassId) (c0 : Int32) (c1 : Int32) (c2 : Int32) (c3 : Int32) (h0 : Heap) (n0 : Nat) (v : Option Value) (h : Heap) (L : List Loc) : Prop := ∃ r : Int32, v = (some (.int r)) ∧ Fr n0 L ∧ Keep h0 h [a2] ∧ ((r = (4 : Int32) ∧ own_Lat [c0, c1, c2, c3] ∧ Arv Z h a2 kb .byte (4 : Int32) [(.int (nar .byte (c0.toInt8.toInt32))), (.int (nar .byte (c1.toInt8.toInt32))), (.int (nar .byte (c2.toInt8.toInt32))), (.int (nar .byte (c3.toInt8.toInt32)))] (.int 0)) ∨ (r = (0 : Int32) ∧ (255 : Int32) < c0) ∨ (r = (1 : Int32) ∧ (255 : Int32) < c1) ∨ (r = (2 : Int32) ∧ (255 : Int32) < c2) ∨ (r = (3 : Int32) ∧ (255 : Int32) < c3))
set_option maxRecDepth 65536 in
set_option maxHeartbeats 40000000 in
theorem rmcmp5_4 (l : Launch) (Z : State) (a0 : Array Value) (hw : ∀ d ∈ tables_1, d.before a0 Z = true) (ws : List Jvm.Cond) (a1 : Addr) (a2 : Addr) (kc : ClassId) (kb : ClassId) (c0 : Int32) (c1 : Int32) (c2 : Int32) (c3 : Int32) (h0 : Heap) (n0 : Nat) (Z0 : n0 ≤ h0.size) (VC : Arv Z h0 a1 kc .char (4 : Int32) [(.int c0), (.int c1), (.int c2), (.int c3)] (.int 0)) (g2 : n0 ≤ a2) (VB : Arv Z h0 a2 kb .byte (4 : Int32) [(.int 0), (.int 0), (.int 0), (.int 0)] (.int 0)) (n12 : a1 ≠ a2) :
    MetFree l own_m15 (head1 (Jvm.Cond.code own_m15 jdk_52_method_21_code 7 (some .int) :: ws) (own_r 0 0 0 0)) (fun a U => a = #[(.ref a1), (.int 0), (.ref a2), (.int 0), (.int 4)] ∧ Z.Warmed39 U.vm ∧ U.heap = h0) (fun _ _ _ _ _ => True) (fun _ U o U' => ∃ v L, o = .returned v ∧ Qcmp5_4 Z a1 a2 kc kb c0 c1 c2 c3 h0 n0 v U'.heap L ∧ FrameEnd U o U' L (own_r 0 0 0 0).cells (own_r 0 0 0 0).slots) := by
  refine MetFree.of_bodySF (plainFor_of_name pn_8) hisR ?_
  intro p e s m args below meth c s₁ Bd hml0 hP hK
  obtain ⟨rfl, hZ, hh⟩ := hP
  have hx := Bd.exec
  have hby := Bd.bytes
  have hml : c.maxLocals = 7 := hml0
  have hown0 := findClass_of_methodNamed Bd.named
  have hown : s.vm.findClass "java/lang/StringUTF16" = some m.cls := hown0
  have hnm := (name_of_methodNamed Bd.named Bd.method).1
  have X0 : Stand p l e (own_r 0 0 0 0) s m #[(.ref a1), (.int 0), (.ref a2), (.int 0), (.int 4)] below meth c s₁ [] 0 0 := Stand.of_body Bd
  have e0 : s₁.heap = h0 := by rw [← hh, Bd.state]; rfl
  have N0 := Fr.nil n0
  obtain ⟨S0, hS0⟩ : ∃ z, z = s₁.setTop (entryFrame m #[(.ref a1), (.int 0), (.ref a2), (.int 0), (.int 4)] 7) := ⟨_, rfl⟩
  have pre0 : own_Go p e below S0 (s₁.setTop (mkF m 0 #[.val (.ref a1), .val (.int 0), .val (.ref a2), .val (.int 0), .val (.int 4), .unset, .unset] [])) := fun t k => by rw [hS0]; exact castTop (ef_cmp5_4 m a1 a2) k
  have fin : ∀ t, Steps p.tables e below S0 t → Steps p.tables e below (s₁.setTop (entryFrame m #[(.ref a1), (.int 0), (.ref a2), (.int 0), (.int 4)] 7)) t := fun t k => by rw [hS0] at k; exact k
  have kc0 : Keep h0 h0 [a2] := Keep.refl _ _
  have pre1 : own_Go p e below S0 (s₁.setTop (mkF m 12 #[.val (.ref a1), .val (.int 0), .val (.ref a2), .val (.int 0), .val (.int 4), .val (.int 0), .unset] [(.int 0), (.ref a1)])) := by
    intro t kt
    refine pre0 t ?_
    refine XS.iconst X0.here hx rfl (hb hby d8_0) ?_
    refine XS.istore X0.here hx rfl (hb hby d8_1) rfl (l' := #[.val (.ref a1), .val (.int 0), .val (.ref a2), .val (.int 0), .val (.int 4), .val (.int 0), .unset]) rfl ?_
    refine XS.iload X0.here hx rfl (hb hby d8_3) rfl ?_
    refine XS.iload X0.here hx rfl (hb hby d8_5) rfl ?_
    refine XS.icmpNo X0.here hx rfl (hb hby d8_7) rfl (tlt (by decide : (0 : Int32) < (4 : Int32))).2.1 ?_
    refine XS.aloadN X0.here hx rfl (hb hby d8_10) rfl rfl ?_
    show Steps p.tables e below (s₁.setTop (mkF m 11 #[.val (.ref a1), .val (.int 0), .val (.ref a2), .val (.int 0), .val (.int 4), .val (.int 0), .unset] [(.ref a1)])) _
    refine XS.iloadN X0.here hx rfl (hb hby d8_11) rfl ?_
    exact kt
  obtain ⟨cl2, Ar2, -, Sz2, -, Hs2, -⟩ := id VC
  have hin2 : ¬ ((0 : Int32) < 0 ∨ cl2.slots.size ≤ ((0 : Int32)).toNatClampNeg) := inb_of Sz2 ⟨by decide, by decide⟩
  have pre4 : own_Go p e below S0 (s₁.setTop (mkF m 20 #[.val (.ref a1), .val (.int 0), .val (.ref a2), .val (.int 0), .val (.int 4), .val (.int 0), .val (.int c0)] [(.int 255), (.int c0)])) := by
    intro t kt
    refine pre1 t ?_
    refine X0.caload hx (j := (0 : Int32)) (v := (.int c0)) (by rw [e0]; exact Ar2.1) (State.isArrayOf_alike hZ.alike Ar2.2.1) Ar2.2.2 hin2 (Hs2.at hin2 rfl) (g := (mkF m 12 #[.val (.ref a1), .val (.int 0), .val (.ref a2), .val (.int 0), .val (.int 4), .val (.int 0), .unset] [(.int 0), (.ref a1)])) rfl rfl (hb hby d8_12) _ ?_
    refine XS.istore X0.here hx rfl (hb hby d8_13) rfl (l' := #[.val (.ref a1), .val (.int 0), .val (.ref a2), .val (.int 0), .val (.int 4), .val (.int 0), .val (.int c0)]) rfl ?_
    refine XS.iload X0.here hx rfl (hb hby d8_15) rfl ?_
    refine XS.sipush X0.here hx rfl (hb hby d8_17) ?_
    exact kt
  by_cases hc3 : (255 : Int32) < c0
  · have pre5 : own_Go p e below S0 (s₁.setTop (mkF m 25 #[.val (.ref a1), .val (.int 0), .val (.ref a2), .val (.int 0), .val (.int 4), .val (.int 0), .val (.int c0)] [(.int 0)])) := by
      intro t kt
      refine pre4 t ?_
      refine XS.icmpNo X0.here hx rfl (hb hby d8_20) rfl (tlt hc3).2.2.2 ?_
      refine XS.iload X0.here hx rfl (hb hby d8_23) rfl ?_
      exact kt
    obtain ⟨fs, hr, hrun, hended, hW, hsame⟩ := X0.leave (v := some (.int 0)) (fun h => by rw [Bd.returns] at h; cases h)
    refine ⟨_, _, fin _ (pre5 _ ?_), hrun, hended, _, _, rfl, ?_, ⟨_, rfl⟩, hW, hsame.mono (by decide) (by decide)⟩
    · exact retI X0 hx Bd.returns (hb hby d8_25) hr
    · show Qcmp5_4 Z a1 a2 kc kb c0 c1 c2 c3 h0 n0 _ s₁.heap _
      rw [e0]
      exact ⟨(0 : Int32), rfl, N0, kc0, (Or.inr (Or.inl ⟨rfl, hc3⟩))⟩
  · have pre6 : own_Go p e below S0 (s₁.setTop (mkF m 31 #[.val (.ref a1), .val (.int 0), .val (.ref a2), .val (.int 0), .val (.int 4), .val (.int 0), .val (.int c0)] [(.int (c0.toInt8.toInt32)), (.int 0), (.ref a2)])) := by
      intro t kt
      refine pre4 t ?_
      refine XS.icmpYes X0.here hx rfl (pc0 := 20) (pc' := 26) rfl (hb hby d8_20) rfl (flt hc3).2.2.2 (by decide) (by decide) ?_
      refine XS.aloadN X0.here hx rfl (hb hby d8_26) rfl rfl ?_
      refine XS.iloadN X0.here hx rfl (hb hby d8_27) rfl ?_
      refine XS.iload X0.here hx rfl (hb hby d8_28) rfl ?_
      refine XS.i2b X0.here hx rfl (hb hby d8_30) rfl ?_
      exact kt
    obtain ⟨cl7, Ar7, q7, Sz7, Ng7, Hs7, Gt7⟩ := id VB
    have hin7 : ¬ ((0 : Int32) < 0 ∨ cl7.slots.size ≤ ((0 : Int32)).toNatClampNeg) := inb_of Sz7 ⟨by decide, by decide⟩
    obtain ⟨T7, h7, X7, e7, W7, st7⟩ := stB X0 hx hZ e0 Ar7 (j := (0 : Int32)) hin7 (g := (mkF m 31 #[.val (.ref a1), .val (.int 0), .val (.ref a2), .val (.int 0), .val (.int 4), .val (.int 0), .val (.int c0)] [(.int (c0.toInt8.toInt32)), (.int 0), (.ref a2)])) rfl rfl (hb hby d8_31)
    have N7 := Fr.snoc X7 N0 g2
    have zs8 : n0 ≤ h7.size := Nat.le_trans Z0 (Keep.of_wr W7).1
    have kc9 : Keep h0 h7 [a2] := kc0.wr W7 (Or.inl (List.mem_of_getElem? (i := 0) rfl))
    have V7 : Arv Z h7 a2 kb .byte (4 : Int32) [(.int (nar .byte (c0.toInt8.toInt32))), (.int 0), (.int 0), (.int 0)] (.int 0) := Arv.set Ar7 q7 Sz7 Ng7 Hs7 Gt7 (fits_nar_byte _) W7 0 rfl (Nat.le_of_ble_eq_true rfl)
    have pre10 : own_Go p e below S0 (T7.setTop (mkF m 12 #[.val (.ref a1), .val (.int 1), .val (.ref a2), .val (.int 1), .val (.int 4), .val (.int 1), .val (.int c0)] [(.int 1), (.ref a1)])) := by
      intro t kt
      refine pre6 t ?_
      refine st7 _ ?_
      refine XS.iinc X7.here hx rfl (hb hby d8_32) rfl (l' := #[.val (.ref a1), .val (.int 1), .val (.ref a2), .val (.int 0), .val (.int 4), .val (.int 0), .val (.int c0)]) rfl ?_
      refine XS.iinc X7.here hx rfl (hb hby d8_35) rfl (l' := #[.val (.ref a1), .val (.int 1), .val (.ref a2), .val (.int 1), .val (.int 4), .val (.int 0), .val (.int c0)]) rfl ?_
      refine XS.iinc X7.here hx rfl (hb hby d8_38) rfl (l' := #[.val (.ref a1), .val (.int 1), .val (.ref a2), .val (.int 1), .val (.int 4), .val (.int 1), .val (.int c0)]) rfl ?_
      refine XS.goto X7.here hx rfl (pc0 := 41) (pc' := 3) rfl (hb hby d8_41) (by decide) (by decide) ?_
      refine XS.iload X7.here hx rfl (hb hby d8_3) rfl ?_
      show Steps p.tables e below (T7.setTop (mkF m 5 #[.val (.ref a1), .val (.int 1), .val (.ref a2), .val (.int 1), .val (.int 4), .val (.int 1), .val (.int c0)] [(.int 1)])) _
      refine XS.iload X7.here hx rfl (hb hby d8_5) rfl ?_
      refine XS.icmpNo X7.here hx rfl (hb hby d8_7) rfl (tlt (by decide : (1 : Int32) < (4 : Int32))).2.1 ?_
      refine XS.aloadN X7.here hx rfl (hb hby d8_10) rfl rfl ?_
      refine XS.iloadN X7.here hx rfl (hb hby d8_11) rfl ?_
      exact kt
    have f11 : Arv Z h7 a1 kc .char (4 : Int32) [(.int c0), (.int c1), (.int c2), (.int c3)] (.int 0) := (VC.other W7 n12)
    obtain ⟨cl12, Ar12, -, Sz12, -, Hs12, -⟩ := id f11
    have hin12 : ¬ ((1 : Int32) < 0 ∨ cl12.slots.size ≤ ((1 : Int32)).toNatClampNeg) := inb_of Sz12 ⟨by decide, by decide⟩
    have pre14 : own_Go p e below S0 (T7.setTop (mkF m 20 #[.val (.ref a1), .val (.int 1), .val (.ref a2), .val (.int 1), .val (.int 4), .val (.int 1), .val (.int c1)] [(.int 255), (.int c1)])) := by
      intro t kt
      refine pre10 t ?_
      refine X7.caload hx (j := (1 : Int32)) (v := (.int c1)) (by rw [e7]; exact Ar12.1) (State.isArrayOf_alike hZ.alike Ar12.2.1) Ar12.2.2 hin12 (Hs12.at hin12 rfl) (g := (mkF m 12 #[.val (.ref a1), .val (.int 1), .val (.ref a2), .val (.int 1), .val (.int 4), .val (.int 1), .val (.int c0)] [(.int 1), (.ref a1)])) rfl rfl (hb hby d8_12) _ ?_
      refine XS.istore X7.here hx rfl (hb hby d8_13) rfl (l' := #[.val (.ref a1), .val (.int 1), .val (.ref a2), .val (.int 1), .val (.int 4), .val (.int 1), .val (.int c1)]) rfl ?_
      refine XS.iload X7.here hx rfl (hb hby d8_15) rfl ?_
      refine XS.sipush X7.here hx rfl (hb hby d8_17) ?_
      exact kt
    by_cases hc13 : (255 : Int32) < c1
    · have pre15 : own_Go p e below S0 (T7.setTop (mkF m 25 #[.val (.ref a1), .val (.int 1), .val (.ref a2), .val (.int 1), .val (.int 4), .val (.int 1), .val (.int c1)] [(.int 1)])) := by
        intro t kt
        refine pre14 t ?_
        refine XS.icmpNo X7.here hx rfl (hb hby d8_20) rfl (tlt hc13).2.2.2 ?_
        refine XS.iload X7.here hx rfl (hb hby d8_23) rfl ?_
        exact kt
      obtain ⟨fs, hr, hrun, hended, hW, hsame⟩ := X7.leave (v := some (.int 1)) (fun h => by rw [Bd.returns] at h; cases h)
      refine ⟨_, _, fin _ (pre15 _ ?_), hrun, hended, _, _, rfl, ?_, ⟨_, rfl⟩, hW, hsame.mono (by decide) (by decide)⟩
      · exact retI X7 hx Bd.returns (hb hby d8_25) hr
      · show Qcmp5_4 Z a1 a2 kc kb c0 c1 c2 c3 h0 n0 _ T7.heap _
        rw [e7]
        exact ⟨(1 : Int32), rfl, N7, kc9, (Or.inr (Or.inr (Or.inl ⟨rfl, hc13⟩)))⟩
    · have pre16 : own_Go p e below S0 (T7.setTop (mkF m 31 #[.val (.ref a1), .val (.int 1), .val (.ref a2), .val (.int 1), .val (.int 4), .val (.int 1), .val (.int c1)] [(.int (c1.toInt8.toInt32)), (.int 1), (.ref a2)])) := by
        intro t kt
        refine pre14 t ?_
        refine XS.icmpYes X7.here hx rfl (pc0 := 20) (pc' := 26) rfl (hb hby d8_20) rfl (flt hc13).2.2.2 (by decide) (by decide) ?_
        refine XS.aloadN X7.here hx rfl (hb hby d8_26) rfl rfl ?_
        refine XS.iloadN X7.here hx rfl (hb hby d8_27) rfl ?_
        refine XS.iload X7.here hx rfl (hb hby d8_28) rfl ?_
        refine XS.i2b X7.here hx rfl (hb hby d8_30) rfl ?_
        exact kt
      obtain ⟨cl17, Ar17, q17, Sz17, Ng17, Hs17, Gt17⟩ := id V7
      have hin17 : ¬ ((1 : Int32) < 0 ∨ cl17.slots.size ≤ ((1 : Int32)).toNatClampNeg) := inb_of Sz17 ⟨by decide, by decide⟩
      obtain ⟨T17, h17, X17, e17, W17, st17⟩ := stB X7 hx hZ e7 Ar17 (j := (1 : Int32)) hin17 (g := (mkF m 31 #[.val (.ref a1), .val (.int 1), .val (.ref a2), .val (.int 1), .val (.int 4), .val (.int 1), .val (.int c1)] [(.int (c1.toInt8.toInt32)), (.int 1), (.ref a2)])) rfl rfl (hb hby d8_31)
      have N17 := Fr.snoc X17 N7 g2
      have zs18 : n0 ≤ h17.size := Nat.le_trans zs8 (Keep.of_wr W17).1
      have kc19 : Keep h0 h17 [a2] := kc9.wr W17 (Or.inl (List.mem_of_getElem? (i := 0) rfl))
      have V17 : Arv Z h17 a2 kb .byte (4 : Int32) [(.int (nar .byte (c0.toInt8.toInt32))), (.int (nar .byte (c1.toInt8.toInt32))), (.int 0), (.int 0)] (.int 0) := Arv.set Ar17 q17 Sz17 Ng17 Hs17 Gt17 (fits_nar_byte _) W17 1 rfl (Nat.le_of_ble_eq_true rfl)
      have pre20 : own_Go p e below S0 (T17.setTop (mkF m 12 #[.val (.ref a1), .val (.int 2), .val (.ref a2), .val (.int 2), .val (.int 4), .val (.int 2), .val (.int c1)] [(.int 2), (.ref a1)])) := by
        intro t kt
        refine pre16 t ?_
        refine st17 _ ?_
        refine XS.iinc X17.here hx rfl (hb hby d8_32) rfl (l' := #[.val (.ref a1), .val (.int 2), .val (.ref a2), .val (.int 1), .val (.int 4), .val (.int 1), .val (.int c1)]) rfl ?_
        refine XS.iinc X17.here hx rfl (hb hby d8_35) rfl (l' := #[.val (.ref a1), .val (.int 2), .val (.ref a2), .val (.int 2), .val (.int 4), .val (.int 1), .val (.int c1)]) rfl ?_
        refine XS.iinc X17.here hx rfl (hb hby d8_38) rfl (l' := #[.val (.ref a1), .val (.int 2), .val (.ref a2), .val (.int 2), .val (.int 4), .val (.int 2), .val (.int c1)]) rfl ?_
        refine XS.goto X17.here hx rfl (pc0 := 41) (pc' := 3) rfl (hb hby d8_41) (by decide) (by decide) ?_
        refine XS.iload X17.here hx rfl (hb hby d8_3) rfl ?_
        show Steps p.tables e below (T17.setTop (mkF m 5 #[.val (.ref a1), .val (.int 2), .val (.ref a2), .val (.int 2), .val (.int 4), .val (.int 2), .val (.int c1)] [(.int 2)])) _
        refine XS.iload X17.here hx rfl (hb hby d8_5) rfl ?_
        refine XS.icmpNo X17.here hx rfl (hb hby d8_7) rfl (tlt (by decide : (2 : Int32) < (4 : Int32))).2.1 ?_
        refine XS.aloadN X17.here hx rfl (hb hby d8_10) rfl rfl ?_
        refine XS.iloadN X17.here hx rfl (hb hby d8_11) rfl ?_
        exact kt
      have f21 : Arv Z h17 a1 kc .char (4 : Int32) [(.int c0), (.int c1), (.int c2), (.int c3)] (.int 0) := (f11.other W17 n12)
      obtain ⟨cl22, Ar22, -, Sz22, -, Hs22, -⟩ := id f21
      have hin22 : ¬ ((2 : Int32) < 0 ∨ cl22.slots.size ≤ ((2 : Int32)).toNatClampNeg) := inb_of Sz22 ⟨by decide, by decide⟩
      have pre24 : own_Go p e below S0 (T17.setTop (mkF m 20 #[.val (.ref a1), .val (.int 2), .val (.ref a2), .val (.int 2), .val (.int 4), .val (.int 2), .val (.int c2)] [(.int 255), (.int c2)])) := by
        intro t kt
        refine pre20 t ?_
        refine X17.caload hx (j := (2 : Int32)) (v := (.int c2)) (by rw [e17]; exact Ar22.1) (State.isArrayOf_alike hZ.alike Ar22.2.1) Ar22.2.2 hin22 (Hs22.at hin22 rfl) (g := (mkF m 12 #[.val (.ref a1), .val (.int 2), .val (.ref a2), .val (.int 2), .val (.int 4), .val (.int 2), .val (.int c1)] [(.int 2), (.ref a1)])) rfl rfl (hb hby d8_12) _ ?_
        refine XS.istore X17.here hx rfl (hb hby d8_13) rfl (l' := #[.val (.ref a1), .val (.int 2), .val (.ref a2), .val (.int 2), .val (.int 4), .val (.int 2), .val (.int c2)]) rfl ?_
        refine XS.iload X17.here hx rfl (hb hby d8_15) rfl ?_
        refine XS.sipush X17.here hx rfl (hb hby d8_17) ?_
        exact kt
      by_cases hc23 : (255 : Int32) < c2
      · have pre25 : own_Go p e below S0 (T17.setTop (mkF m 25 #[.val (.ref a1), .val (.int 2), .val (.ref a2), .val (.int 2), .val (.int 4), .val (.int 2), .val (.int c2)] [(.int 2)])) := by
          intro t kt
          refine pre24 t ?_
          refine XS.icmpNo X17.here hx rfl (hb hby d8_20) rfl (tlt hc23).2.2.2 ?_
          refine XS.iload X17.here hx rfl (hb hby d8_23) rfl ?_
          exact kt
        obtain ⟨fs, hr, hrun, hended, hW, hsame⟩ := X17.leave (v := some (.int 2)) (fun h => by rw [Bd.returns] at h; cases h)
        refine ⟨_, _, fin _ (pre25 _ ?_), hrun, hended, _, _, rfl, ?_, ⟨_, rfl⟩, hW, hsame.mono (by decide) (by decide)⟩
        · exact retI X17 hx Bd.returns (hb hby d8_25) hr
        · show Qcmp5_4 Z a1 a2 kc kb c0 c1 c2 c3 h0 n0 _ T17.heap _
          rw [e17]
          exact ⟨(2 : Int32), rfl, N17, kc19, (Or.inr (Or.inr (Or.inr (Or.inl ⟨rfl, hc23⟩))))⟩
      · have pre26 : own_Go p e below S0 (T17.setTop (mkF m 31 #[.val (.ref a1), .val (.int 2), .val (.ref a2), .val (.int 2), .val (.int 4), .val (.int 2), .val (.int c2)] [(.int (c2.toInt8.toInt32)), (.int 2), (.ref a2)])) := by
          intro t kt
          refine pre24 t ?_
          refine XS.icmpYes X17.here hx rfl (pc0 := 20) (pc' := 26) rfl (hb hby d8_20) rfl (flt hc23).2.2.2 (by decide) (by decide) ?_
          refine XS.aloadN X17.here hx rfl (hb hby d8_26) rfl rfl ?_
          refine XS.iloadN X17.here hx rfl (hb hby d8_27) rfl ?_
          refine XS.iload X17.here hx rfl (hb hby d8_28) rfl ?_
          refine XS.i2b X17.here hx rfl (hb hby d8_30) rfl ?_
          exact kt
        obtain ⟨cl27, Ar27, q27, Sz27, Ng27, Hs27, Gt27⟩ := id V17
        have hin27 : ¬ ((2 : Int32) < 0 ∨ cl27.slots.size ≤ ((2 : Int32)).toNatClampNeg) := inb_of Sz27 ⟨by decide, by decide⟩
        obtain ⟨T27, h27, X27, e27, W27, st27⟩ := stB X17 hx hZ e17 Ar27 (j := (2 : Int32)) hin27 (g := (mkF m 31 #[.val (.ref a1), .val (.int 2), .val (.ref a2), .val (.int 2), .val (.int 4), .val (.int 2), .val (.int c2)] [(.int (c2.toInt8.toInt32)), (.int 2), (.ref a2)])) rfl rfl (hb hby d8_31)
        have N27 := Fr.snoc X27 N17 g2
        have zs28 : n0 ≤ h27.size := Nat.le_trans zs18 (Keep.of_wr W27).1
        have kc29 : Keep h0 h27 [a2] := kc19.wr W27 (Or.inl (List.mem_of_getElem? (i := 0) rfl))
        have V27 : Arv Z h27 a2 kb .byte (4 : Int32) [(.int (nar .byte (c0.toInt8.toInt32))), (.int (nar .byte (c1.toInt8.toInt32))), (.int (nar .byte (c2.toInt8.toInt32))), (.int 0)] (.int 0) := Arv.set Ar27 q27 Sz27 Ng27 Hs27 Gt27 (fits_nar_byte _) W27 2 rfl (Nat.le_of_ble_eq_true rfl)
        have pre30 : own_Go p e below S0 (T27.setTop (mkF m 12 #[.val (.ref a1), .val (.int 3), .val (.ref a2), .val (.int 3), .val (.int 4), .val (.int 3), .val (.int c2)] [(.int 3), (.ref a1)])) := by
          intro t kt
          refine pre26 t ?_
          refine st27 _ ?_
          refine XS.iinc X27.here hx rfl (hb hby d8_32) rfl (l' := #[.val (.ref a1), .val (.int 3), .val (.ref a2), .val (.int 2), .val (.int 4), .val (.int 2), .val (.int c2)]) rfl ?_
          refine XS.iinc X27.here hx rfl (hb hby d8_35) rfl (l' := #[.val (.ref a1), .val (.int 3), .val (.ref a2), .val (.int 3), .val (.int 4), .val (.int 2), .val (.int c2)]) rfl ?_
          refine XS.iinc X27.here hx rfl (hb hby d8_38) rfl (l' := #[.val (.ref a1), .val (.int 3), .val (.ref a2), .val (.int 3), .val (.int 4), .val (.int 3), .val (.int c2)]) rfl ?_
          refine XS.goto X27.here hx rfl (pc0 := 41) (pc' := 3) rfl (hb hby d8_41) (by decide) (by decide) ?_
          refine XS.iload X27.here hx rfl (hb hby d8_3) rfl ?_
          show Steps p.tables e below (T27.setTop (mkF m 5 #[.val (.ref a1), .val (.int 3), .val (.ref a2), .val (.int 3), .val (.int 4), .val (.int 3), .val (.int c2)] [(.int 3)])) _
          refine XS.iload X27.here hx rfl (hb hby d8_5) rfl ?_
          refine XS.icmpNo X27.here hx rfl (hb hby d8_7) rfl (tlt (by decide : (3 : Int32) < (4 : Int32))).2.1 ?_
          refine XS.aloadN X27.here hx rfl (hb hby d8_10) rfl rfl ?_
          refine XS.iloadN X27.here hx rfl (hb hby d8_11) rfl ?_
          exact kt
        have f31 : Arv Z h27 a1 kc .char (4 : Int32) [(.int c0), (.int c1), (.int c2), (.int c3)] (.int 0) := (f21.other W27 n12)
        obtain ⟨cl32, Ar32, -, Sz32, -, Hs32, -⟩ := id f31
        have hin32 : ¬ ((3 : Int32) < 0 ∨ cl32.slots.size ≤ ((3 : Int32)).toNatClampNeg) := inb_of Sz32 ⟨by decide, by decide⟩
        have pre34 : own_Go p e below S0 (T27.setTop (mkF m 20 #[.val (.ref a1), .val (.int 3), .val (.ref a2), .val (.int 3), .val (.int 4), .val (.int 3), .val (.int c3)] [(.int 255), (.int c3)])) := by
          intro t kt
          refine pre30 t ?_
          refine X27.caload hx (j := (3 : Int32)) (v := (.int c3)) (by rw [e27]; exact Ar32.1) (State.isArrayOf_alike hZ.alike Ar32.2.1) Ar32.2.2 hin32 (Hs32.at hin32 rfl) (g := (mkF m 12 #[.val (.ref a1), .val (.int 3), .val (.ref a2), .val (.int 3), .val (.int 4), .val (.int 3), .val (.int c2)] [(.int 3), (.ref a1)])) rfl rfl (hb hby d8_12) _ ?_
          refine XS.istore X27.here hx rfl (hb hby d8_13) rfl (l' := #[.val (.ref a1), .val (.int 3), .val (.ref a2), .val (.int 3), .val (.int 4), .val (.int 3), .val (.int c3)]) rfl ?_
          refine XS.iload X27.here hx rfl (hb hby d8_15) rfl ?_
          refine XS.sipush X27.here hx rfl (hb hby d8_17) ?_
          exact kt
        by_cases hc33 : (255 : Int32) < c3
        · have pre35 : own_Go p e below S0 (T27.setTop (mkF m 25 #[.val (.ref a1), .val (.int 3), .val (.ref a2), .val (.int 3), .val (.int 4), .val (.int 3), .val (.int c3)] [(.int 3)])) := by
            intro t kt
            refine pre34 t ?_
            refine XS.icmpNo X27.here hx rfl (hb hby d8_20) rfl (tlt hc33).2.2.2 ?_
            refine XS.iload X27.here hx rfl (hb hby d8_23) rfl ?_
            exact kt
          obtain ⟨fs, hr, hrun, hended, hW, hsame⟩ := X27.leave (v := some (.int 3)) (fun h => by rw [Bd.returns] at h; cases h)
          refine ⟨_, _, fin _ (pre35 _ ?_), hrun, hended, _, _, rfl, ?_, ⟨_, rfl⟩, hW, hsame.mono (by decide) (by decide)⟩
          · exact retI X27 hx Bd.returns (hb hby d8_25) hr
          · show Qcmp5_4 Z a1 a2 kc kb c0 c1 c2 c3 h0 n0 _ T27.heap _
            rw [e27]
            exact ⟨(3 : Int32), rfl, N27, kc29, (Or.inr (Or.inr (Or.inr (Or.inr (⟨rfl, hc33⟩)))))⟩
        · have pre36 : own_Go p e below S0 (T27.setTop (mkF m 31 #[.val (.ref a1), .val (.int 3), .val (.ref a2), .val (.int 3), .val (.int 4), .val (.int 3), .val (.int c3)] [(.int (c3.toInt8.toInt32)), (.int 3), (.ref a2)])) := by
            intro t kt
            refine pre34 t ?_
            refine XS.icmpYes X27.here hx rfl (pc0 := 20) (pc' := 26) rfl (hb hby d8_20) rfl (flt hc33).2.2.2 (by decide) (by decide) ?_
            refine XS.aloadN X27.here hx rfl (hb hby d8_26) rfl rfl ?_
            refine XS.iloadN X27.here hx rfl (hb hby d8_27) rfl ?_
            refine XS.iload X27.here hx rfl (hb hby d8_28) rfl ?_
            refine XS.i2b X27.here hx rfl (hb hby d8_30) rfl ?_
            exact kt
          obtain ⟨cl37, Ar37, q37, Sz37, Ng37, Hs37, Gt37⟩ := id V27
          have hin37 : ¬ ((3 : Int32) < 0 ∨ cl37.slots.size ≤ ((3 : Int32)).toNatClampNeg) := inb_of Sz37 ⟨by decide, by decide⟩
          obtain ⟨T37, h37, X37, e37, W37, st37⟩ := stB X27 hx hZ e27 Ar37 (j := (3 : Int32)) hin37 (g := (mkF m 31 #[.val (.ref a1), .val (.int 3), .val (.ref a2), .val (.int 3), .val (.int 4), .val (.int 3), .val (.int c3)] [(.int (c3.toInt8.toInt32)), (.int 3), (.ref a2)])) rfl rfl (hb hby d8_31)
          have N37 := Fr.snoc X37 N27 g2
          have zs38 : n0 ≤ h37.size := Nat.le_trans zs28 (Keep.of_wr W37).1
          have kc39 : Keep h0 h37 [a2] := kc29.wr W37 (Or.inl (List.mem_of_getElem? (i := 0) rfl))
          have V37 : Arv Z h37 a2 kb .byte (4 : Int32) [(.int (nar .byte (c0.toInt8.toInt32))), (.int (nar .byte (c1.toInt8.toInt32))), (.int (nar .byte (c2.toInt8.toInt32))), (.int (nar .byte (c3.toInt8.toInt32)))] (.int 0) := Arv.set Ar37 q37 Sz37 Ng37 Hs37 Gt37 (fits_nar_byte _) W37 3 rfl (Nat.le_of_ble_eq_true rfl)
          have pre40 : own_Go p e below S0 (T37.setTop (mkF m 46 #[.val (.ref a1), .val (.int 4), .val (.ref a2), .val (.int 4), .val (.int 4), .val (.int 4), .val (.int c3)] [(.int 4)])) := by
            intro t kt
            refine pre36 t ?_
            refine st37 _ ?_
            refine XS.iinc X37.here hx rfl (hb hby d8_32) rfl (l' := #[.val (.ref a1), .val (.int 4), .val (.ref a2), .val (.int 3), .val (.int 4), .val (.int 3), .val (.int c3)]) rfl ?_
            refine XS.iinc X37.here hx rfl (hb hby d8_35) rfl (l' := #[.val (.ref a1), .val (.int 4), .val (.ref a2), .val (.int 4), .val (.int 4), .val (.int 3), .val (.int c3)]) rfl ?_
            refine XS.iinc X37.here hx rfl (hb hby d8_38) rfl (l' := #[.val (.ref a1), .val (.int 4), .val (.ref a2), .val (.int 4), .val (.int 4), .val (.int 4), .val (.int c3)]) rfl ?_
            refine XS.goto X37.here hx rfl (pc0 := 41) (pc' := 3) rfl (hb hby d8_41) (by decide) (by decide) ?_
            refine XS.iload X37.here hx rfl (hb hby d8_3) rfl ?_
            show Steps p.tables e below (T37.setTop (mkF m 5 #[.val (.ref a1), .val (.int 4), .val (.ref a2), .val (.int 4), .val (.int 4), .val (.int 4), .val (.int c3)] [(.int 4)])) _
            refine XS.iload X37.here hx rfl (hb hby d8_5) rfl ?_
            refine XS.icmpYes X37.here hx rfl (pc0 := 7) (pc' := 44) rfl (hb hby d8_7) rfl (flt (by decide : ¬ ((4 : Int32) < (4 : Int32)))).2.1 (by decide) (by decide) ?_
            refine XS.iload X37.here hx rfl (hb hby d8_44) rfl ?_
            exact kt
          obtain ⟨fs, hr, hrun, hended, hW, hsame⟩ := X37.leave (v := some (.int 4)) (fun h => by rw [Bd.returns] at h; cases h)
          refine ⟨_, _, fin _ (pre40 _ ?_), hrun, hended, _, _, rfl, ?_, ⟨_, rfl⟩, hW, hsame.mono (by decide) (by decide)⟩
          · exact retI X37 hx Bd.returns (hb hby d8_46) hr
          · show Qcmp5_4 Z a1 a2 kc kb c0 c1 c2 c3 h0 n0 _ T37.heap _
            rw [e37]
            exact ⟨(4 : Int32), rfl, N37, kc39, (Or.inl ⟨rfl, ⟨⟨(own_fitAt VC 0 (by decide) rfl).1, own_ltOf hc3⟩, ⟨⟨(own_fitAt VC 1 (by decide) rfl).1, own_ltOf hc13⟩, ⟨⟨(own_fitAt VC 2 (by decide) rfl).1, own_ltOf hc23⟩, ⟨⟨(own_fitAt VC 3 (by decide) rfl).1, own_ltOf hc33⟩, trivial⟩⟩⟩⟩, V37⟩)⟩

theorem ef_nfor_4 (m : MethodId)  : entryFrame m #[(.int 4)] 1 = mkF m 0 #[.val (.int 4)] [] := by first | (simp [entryFrame, mkF, argsToLocals, Value.category]; done) | rfl
def Qnfor_4 (Z : State)  (h0 : Heap) (n0 : Nat) (v : Option Value) (h : Heap) (L : List Loc) : Prop := ∃ b : Addr, ∃ kb : ClassId, v = (some (.ref b)) ∧ Fr n0 L ∧ Keep h0 h [] ∧ h0.size ≤ b ∧ Arv Z h b kb .byte (8 : Int32) [(.int 0), (.int 0), (.int 0), (.int 0), (.int 0), (.int 0), (.int 0), (.int 0)] (.int 0)
set_option maxRecDepth 65536 in
set_option maxHeartbeats 40000000 in
theorem rmnfor_4 (l : Launch) (Z : State) (a0 : Array Value) (hw : ∀ d ∈ tables_1, d.before a0 Z = true) (ws : List Jvm.Cond)  (h0 : Heap) (n0 : Nat) (Z0 : n0 ≤ h0.size) :
    MetFree l own_m18 (head1 (Jvm.Cond.code own_m18 jdk_52_method_2_code 1 (some (.array .byte)) :: ws) (own_r 1 1 8 12)) (fun a U => a = #[(.int 4)] ∧ Z.Warmed39 U.vm ∧ U.heap = h0) (fun _ _ _ _ _ => True) (fun _ U o U' => ∃ v L, o = .returned v ∧ Qnfor_4 Z  h0 n0 v U'.heap L ∧ FrameEnd U o U' L (own_r 1 1 8 12).cells (own_r 1 1 8 12).slots) := by
  refine MetFree.of_bodySF (plainFor_of_name pn_18) hisR ?_
  intro p e s m args below meth c s₁ Bd hml0 hP hK
  obtain ⟨rfl, hZ, hh⟩ := hP
  have hx := Bd.exec
  have hby := Bd.bytes
  have hml : c.maxLocals = 1 := hml0
  have hown0 := findClass_of_methodNamed Bd.named
  have hown : s.vm.findClass "java/lang/StringUTF16" = some m.cls := hown0
  have hnm := (name_of_methodNamed Bd.named Bd.method).1
  have X0 : Stand p l e (own_r 1 1 8 12) s m #[(.int 4)] below meth c s₁ [] 0 0 := Stand.of_body Bd
  have e0 : s₁.heap = h0 := by rw [← hh, Bd.state]; rfl
  have N0 := Fr.nil n0
  obtain ⟨S0, hS0⟩ : ∃ z, z = s₁.setTop (entryFrame m #[(.int 4)] 1) := ⟨_, rfl⟩
  have pre0 : own_Go p e below S0 (s₁.setTop (mkF m 0 #[.val (.int 4)] [])) := fun t k => by rw [hS0]; exact castTop (ef_nfor_4 m ) k
  have fin : ∀ t, Steps p.tables e below S0 t → Steps p.tables e below (s₁.setTop (entryFrame m #[(.int 4)] 1)) t := fun t k => by rw [hS0] at k; exact k
  have kc0 : Keep h0 h0 [] := Keep.refl _ _
  have pre1 : own_Go p e below S0 (s₁.setTop (mkF m 1 #[.val (.int 4)] [(.int 4)])) := by
    intro t kt
    refine pre0 t ?_
    refine XS.iloadN X0.here hx rfl (hb hby d18_0) rfl ?_
    exact kt
  obtain ⟨_, _, ⟨T2, L2, k2, n2⟩, -, X2, ⟨Lc2, hQ2, l2, y2, z2⟩, st2⟩ := Jvm.LawKit.callS X0 hx (y := own_m19) hown (mvT hZ (hw _ (own_w 83 rfl))) (mvT hZ (hw _ (own_w 84 rfl))) (mvT hZ (hw _ (own_w 40 rfl))) (mvT hZ (hw _ (own_w 85 rfl))) (by decide) (backOf (W := 0) (rmnlen l Z a0 hw [] (4 : Int32) h0 n0 Z0 (by decide) (by decide)) hZ (hw _ (own_w 85 rfl)) (hw _ (own_w 40 rfl)) (by decide) (by decide)) (g := (mkF m 1 #[.val (.int 4)] [(.int 4)])) rfl (by rw [hml]; rfl) (argsL := [(.int 4)]) (rest := []) (lenOf pd_2 rfl) rfl (by show 2 * 0 + _ ≤ _; exact Nat.le_of_eq rfl) (hb hby d18_1) (fun _ _ => ⟨rfl, e0, (by decide : 0 + 0 ≤ _), (by decide : 0 + 0 ≤ _)⟩)
  dsimp only [Pt.U, Pt.locs, Pt.cells, Pt.slots] at X2 l2 y2 z2 st2 hQ2
  subst l2 y2 z2
  obtain ⟨rfl, Nq2, eq2⟩ := hQ2
  have N2 := Fr.app N0 Nq2
  have pre3 : own_Go p e below S0 (T2.setTop (mkF m 4 #[.val (.int 4)] [(.int (own_nbl (4 : Int32)))])) := by
    intro t kt
    refine pre1 t ?_
    refine st2 _ ?_
    show Steps p.tables e below (T2.setTop (mkF m 4 #[.val (.int 4)] [(.int (own_nbl (4 : Int32)))])) _
    exact kt
  have pre4 : own_Go p e below S0 (T2.setTop (mkF m 4 #[.val (.int 4)] [(.int 8)])) := by
    intro t kt
    refine pre3 t ?_
    rw [(by decide : (own_nbl (4 : Int32)) = (8 : Int32))]
    exact kt
  obtain ⟨T5, h5, k5, X5, e5, E5, A5, st5⟩ := newP X2 hx hZ (hw _ (own_w 16 rfl)) eq2 (g := (mkF m 4 #[.val (.int 4)] [(.int 8)])) rfl (hb hby d18_4) rfl (by decide) (cap := 8) (by decide) (by decide) (by decide) (by decide)
  obtain ⟨b5, g5⟩ : ∃ z, z = h0.size := ⟨_, rfl⟩
  rw [← g5] at A5 st5
  have ge6 : n0 ≤ b5 := Nat.le_trans Z0 (Nat.le_of_eq g5.symm)
  have sz7 : h0.size ≤ b5 := Nat.le_trans kc0.1 (Nat.le_of_eq g5.symm)
  have zs8 : n0 ≤ h5.size := Nat.le_trans Z0 E5.1
  have kc9 : Keep h0 h5 [] := kc0.ext E5
  have V5 : Arv Z h5 b5 k5 .byte (8 : Int32) [(.int 0), (.int 0), (.int 0), (.int 0), (.int 0), (.int 0), (.int 0), (.int 0)] (.int 0) := (Arv.new A5 (by decide)).pad (pad_rep [] (.int 0) 8)
  have pre10 : own_Go p e below S0 (T5.setTop (mkF m 6 #[.val (.int 4)] [(.ref b5)])) := by
    intro t kt
    refine pre4 t ?_
    refine st5 _ ?_
    exact kt
  obtain ⟨fs, hr, hrun, hended, hW, hsame⟩ := X5.leave (v := some (.ref b5)) (fun h => by rw [Bd.returns] at h; cases h)
  refine ⟨_, _, fin _ (pre10 _ ?_), hrun, hended, _, _, rfl, ?_, ⟨_, rfl⟩, hW, hsame.mono (by decide) (by decide)⟩
  · jvm_step X5.here [X5.here.top, hx, (hb hby d18_6), X5.method', Bd.returns, Value.isRef, FieldType.isReference]
    first | (intro acts; rw [hr _ acts rfl rfl rfl]) | rw [hr _ _ rfl rfl rfl]
    exact Steps.refl _
  · show Qnfor_4 Z  h0 n0 _ T5.heap _
    rw [e5]
    exact ⟨b5, k5, rfl, N2, kc9, sz7, V5⟩

theorem ef_putc_0_8 (m : MethodId) (x0 : Addr) (x2 : Int32) : entryFrame m #[(.ref x0), (.int 0), (.int x2)] 3 = mkF m 0 #[.val (.ref x0), .val (.int 0), .val (.int x2)] [] := by first | (simp [entryFrame, mkF, argsToLocals, Value.category]; done) | rfl
def Qputc_0_8 (Z : State) (a1 : Addr) (p3 : Int32) (k1 : ClassId) (u0 : Value) (u1 : Value) (u2 : Value) (u3 : Value) (u4 : Value) (u5 : Value) (u6 : Value) (u7 : Value) (h0 : Heap) (n0 : Nat) (v : Option Value) (h : Heap) (L : List Loc) : Prop := v = none ∧ Fr n0 L ∧ Keep h0 h [a1] ∧ Arv Z h a1 k1 .byte (8 : Int32) [(.int (nar .byte ((p3 >>> ((0 : Int32) &&& 31)).toInt8.toInt32))), (.int (nar .byte ((p3 >>> ((8 : Int32) &&& 31)).toInt8.toInt32))), u2, u3, u4, u5, u6, u7] (.int 0)
set_option maxRecDepth 65536 in
set_option maxHeartbeats 40000000 in
theorem rmputc_0_8 (l : Launch) (Z : State) (a0 : Array Value) (hw : ∀ d ∈ tables_1, d.before a0 Z = true) (ws : List Jvm.Cond) (a1 : Addr) (p3 : Int32) (k1 : ClassId) (u0 : Value) (u1 : Value) (u2 : Value) (u3 : Value) (u4 : Value) (u5 : Value) (u6 : Value) (u7 : Value) (h0 : Heap) (n0 : Nat) (Z0 : n0 ≤ h0.size) (O0 : Old Z n0 h0) (qU : (own_SU Z)) (g1 : n0 ≤ a1) (V1 : Arv Z h0 a1 k1 .byte (8 : Int32) [u0, u1, u2, u3, u4, u5, u6, u7] (.int 0)) :
    MetFree l own_m20 (head1 (Jvm.Cond.code own_m20 jdk_52_method_4_code 3 none :: ws) (own_r 0 0 0 0)) (fun a U => a = #[(.ref a1), (.int 0), (.int p3)] ∧ Z.Warmed39 U.vm ∧ U.heap = h0) (fun _ _ _ _ _ => True) (fun _ U o U' => ∃ v L, o = .returned v ∧ Qputc_0_8 Z a1 p3 k1 u0 u1 u2 u3 u4 u5 u6 u7 h0 n0 v U'.heap L ∧ FrameEnd U o U' L (own_r 0 0 0 0).cells (own_r 0 0 0 0).slots) := by
  refine MetFree.of_bodySF (plainFor_of_name pn_20) hisR ?_
  intro p e s m args below meth c s₁ Bd hml0 hP hK
  obtain ⟨rfl, hZ, hh⟩ := hP
  have hx := Bd.exec
  have hby := Bd.bytes
  have hml : c.maxLocals = 3 := hml0
  have hown0 := findClass_of_methodNamed Bd.named
  have hown : s.vm.findClass "java/lang/StringUTF16" = some m.cls := hown0
  have hnm := (name_of_methodNamed Bd.named Bd.method).1
  have X0 : Stand p l e (own_r 0 0 0 0) s m #[(.ref a1), (.int 0), (.int p3)] below meth c s₁ [] 0 0 := Stand.of_body Bd
  have e0 : s₁.heap = h0 := by rw [← hh, Bd.state]; rfl
  have N0 := Fr.nil n0
  obtain ⟨S0, hS0⟩ : ∃ z, z = s₁.setTop (entryFrame m #[(.ref a1), (.int 0), (.int p3)] 3) := ⟨_, rfl⟩
  have pre0 : own_Go p e below S0 (s₁.setTop (mkF m 0 #[.val (.ref a1), .val (.int 0), .val (.int p3)] [])) := fun t k => by rw [hS0]; exact castTop (ef_putc_0_8 m a1 p3) k
  have fin : ∀ t, Steps p.tables e below S0 t → Steps p.tables e below (s₁.setTop (entryFrame m #[(.ref a1), (.int 0), (.int p3)] 3)) t := fun t k => by rw [hS0] at k; exact k
  have kc0 : Keep h0 h0 [a1] := Keep.refl _ _
  obtain ⟨T1, X1, e1, st1⟩ := getS2 X0 hx hZ hown (host := "") (Or.inl (hw _ (own_w 90 rfl))) Via.refl e0 (qU.1.ext O0.2) (g := (mkF m 0 #[.val (.ref a1), .val (.int 0), .val (.int p3)] [])) rfl (hb hby d20_0)
  have pre2 : own_Go p e below S0 (T1.setTop (mkF m 38 #[.val (.ref a1), .val (.int 1), .val (.int p3)] [(.int p3), (.int 0), (.ref a1)])) := by
    intro t kt
    refine pre0 t ?_
    refine st1 _ ?_
    refine XS.ifYes X1.here hx rfl (pc0 := 3) (pc' := 28) rfl (hb hby d20_3) rfl ((if0 _ _).trans (feq (by decide : ¬ ((1 : Int32) = (0 : Int32)))).2) (by decide) (by decide) ?_
    refine XS.iloadN X1.here hx rfl (hb hby d20_28) rfl ?_
    refine XS.iconst X1.here hx rfl (hb hby d20_29) ?_
    refine XS.ishl X1.here hx rfl (hb hby d20_30) rfl ?_
    refine XS.istoreN X1.here hx rfl (hb hby d20_31) rfl (l' := #[.val (.ref a1), .val (.int 0), .val (.int p3)]) rfl ?_
    show Steps p.tables e below (T1.setTop (mkF m 32 #[.val (.ref a1), .val (.int 0), .val (.int p3)] [])) _
    refine XS.aloadN X1.here hx rfl (hb hby d20_32) rfl rfl ?_
    refine XS.iloadN X1.here hx rfl (hb hby d20_33) rfl ?_
    refine XS.iinc X1.here hx rfl (hb hby d20_34) rfl (l' := #[.val (.ref a1), .val (.int 1), .val (.int p3)]) rfl ?_
    refine XS.iloadN X1.here hx rfl (hb hby d20_37) rfl ?_
    exact kt
  obtain ⟨T3, X3, e3, st3⟩ := getS2 X1 hx hZ hown (host := "") (Or.inl (hw _ (own_w 91 rfl))) Via.refl e1 (qU.2.1.ext O0.2) (g := (mkF m 38 #[.val (.ref a1), .val (.int 1), .val (.int p3)] [(.int p3), (.int 0), (.ref a1)])) rfl (hb hby d20_38)
  have pre4 : own_Go p e below S0 (T3.setTop (mkF m 43 #[.val (.ref a1), .val (.int 1), .val (.int p3)] [(.int ((p3 >>> ((0 : Int32) &&& 31)).toInt8.toInt32)), (.int 0), (.ref a1)])) := by
    intro t kt
    refine pre2 t ?_
    refine st3 _ ?_
    refine XS.ishr X3.here hx rfl (hb hby d20_41) rfl ?_
    refine XS.i2b X3.here hx rfl (hb hby d20_42) rfl ?_
    exact kt
  obtain ⟨cl5, Ar5, q5, Sz5, Ng5, Hs5, Gt5⟩ := id V1
  have hin5 : ¬ ((0 : Int32) < 0 ∨ cl5.slots.size ≤ ((0 : Int32)).toNatClampNeg) := inb_of Sz5 ⟨by decide, by decide⟩
  obtain ⟨T5, h5, X5, e5, W5, st5⟩ := stB X3 hx hZ e3 Ar5 (j := (0 : Int32)) hin5 (g := (mkF m 43 #[.val (.ref a1), .val (.int 1), .val (.int p3)] [(.int ((p3 >>> ((0 : Int32) &&& 31)).toInt8.toInt32)), (.int 0), (.ref a1)])) rfl rfl (hb hby d20_43)
  have N5 := Fr.snoc X5 N0 g1
  have zs6 : n0 ≤ h5.size := Nat.le_trans Z0 (Keep.of_wr W5).1
  have kc7 : Keep h0 h5 [a1] := kc0.wr W5 (Or.inl (List.mem_of_getElem? (i := 0) rfl))
  have V5 : Arv Z h5 a1 k1 .byte (8 : Int32) [(.int (nar .byte ((p3 >>> ((0 : Int32) &&& 31)).toInt8.toInt32))), u1, u2, u3, u4, u5, u6, u7] (.int 0) := Arv.set Ar5 q5 Sz5 Ng5 Hs5 Gt5 (fits_nar_byte _) W5 0 rfl (Nat.le_of_ble_eq_true rfl)
  have pre8 : own_Go p e below S0 (T5.setTop (mkF m 47 #[.val (.ref a1), .val (.int 1), .val (.int p3)] [(.int p3), (.int 1), (.ref a1)])) := by
    intro t kt
    refine pre4 t ?_
    refine st5 _ ?_
    refine XS.aloadN X5.here hx rfl (hb hby d20_44) rfl rfl ?_
    refine XS.iloadN X5.here hx rfl (hb hby d20_45) rfl ?_
    refine XS.iloadN X5.here hx rfl (hb hby d20_46) rfl ?_
    exact kt
  have f9 : Old Z n0 h5 := (O0.wr W5 g1)
  obtain ⟨T10, X10, e10, st10⟩ := getS2 X5 hx hZ hown (host := "") (Or.inl (hw _ (own_w 92 rfl))) Via.refl e5 (qU.2.2.ext f9.2) (g := (mkF m 47 #[.val (.ref a1), .val (.int 1), .val (.int p3)] [(.int p3), (.int 1), (.ref a1)])) rfl (hb hby d20_47)
  have pre11 : own_Go p e below S0 (T10.setTop (mkF m 52 #[.val (.ref a1), .val (.int 1), .val (.int p3)] [(.int ((p3 >>> ((8 : Int32) &&& 31)).toInt8.toInt32)), (.int 1), (.ref a1)])) := by
    intro t kt
    refine pre8 t ?_
    refine st10 _ ?_
    refine XS.ishr X10.here hx rfl (hb hby d20_50) rfl ?_
    refine XS.i2b X10.here hx rfl (hb hby d20_51) rfl ?_
    exact kt
  obtain ⟨cl12, Ar12, q12, Sz12, Ng12, Hs12, Gt12⟩ := id V5
  have hin12 : ¬ ((1 : Int32) < 0 ∨ cl12.slots.size ≤ ((1 : Int32)).toNatClampNeg) := inb_of Sz12 ⟨by decide, by decide⟩
  obtain ⟨T12, h12, X12, e12, W12, st12⟩ := stB X10 hx hZ e10 Ar12 (j := (1 : Int32)) hin12 (g := (mkF m 52 #[.val (.ref a1), .val (.int 1), .val (.int p3)] [(.int ((p3 >>> ((8 : Int32) &&& 31)).toInt8.toInt32)), (.int 1), (.ref a1)])) rfl rfl (hb hby d20_52)
  have N12 := Fr.snoc X12 N5 g1
  have zs13 : n0 ≤ h12.size := Nat.le_trans zs6 (Keep.of_wr W12).1
  have kc14 : Keep h0 h12 [a1] := kc7.wr W12 (Or.inl (List.mem_of_getElem? (i := 0) rfl))
  have V12 : Arv Z h12 a1 k1 .byte (8 : Int32) [(.int (nar .byte ((p3 >>> ((0 : Int32) &&& 31)).toInt8.toInt32))), (.int (nar .byte ((p3 >>> ((8 : Int32) &&& 31)).toInt8.toInt32))), u2, u3, u4, u5, u6, u7] (.int 0) := Arv.set Ar12 q12 Sz12 Ng12 Hs12 Gt12 (fits_nar_byte _) W12 1 rfl (Nat.le_of_ble_eq_true rfl)
  have pre15 : own_Go p e below S0 (T12.setTop (mkF m 53 #[.val (.ref a1), .val (.int 1), .val (.int p3)] [])) := by
    intro t kt
    refine pre11 t ?_
    refine st12 _ ?_
    exact kt
  obtain ⟨fs, hr, hrun, hended, hW, hsame⟩ := X12.leave (v := none) (fun _ => rfl)
  refine ⟨_, _, fin _ (pre15 _ ?_), hrun, hended, _, _, rfl, ?_, ⟨_, rfl⟩, hW, hsame.mono (by decide) (by decide)⟩
  · exact X12.returnOut hx Bd.returns (hb hby d20_53) hr
  · show Qputc_0_8 Z a1 p3 k1 u0 u1 u2 u3 u4 u5 u6 u7 h0 n0 _ T12.heap _
    rw [e12]
    exact ⟨rfl, N12, kc14, V12⟩

theorem ef_putc_1_8 (m : MethodId) (x0 : Addr) (x2 : Int32) : entryFrame m #[(.ref x0), (.int 1), (.int x2)] 3 = mkF m 0 #[.val (.ref x0), .val (.int 1), .val (.int x2)] [] := by first | (simp [entryFrame, mkF, argsToLocals, Value.category]; done) | rfl
def Qputc_1_8 (Z : State) (a1 : Addr) (p3 : Int32) (k1 : ClassId) (u0 : Value) (u1 : Value) (u2 : Value) (u3 : Value) (u4 : Value) (u5 : Value) (u6 : Value) (u7 : Value) (h0 : Heap) (n0 : Nat) (v : Option Value) (h : Heap) (L : List Loc) : Prop := v = none ∧ Fr n0 L ∧ Keep h0 h [a1] ∧ Arv Z h a1 k1 .byte (8 : Int32) [u0, u1, (.int (nar .byte ((p3 >>> ((0 : Int32) &&& 31)).toInt8.toInt32))), (.int (nar .byte ((p3 >>> ((8 : Int32) &&& 31)).toInt8.toInt32))), u4, u5, u6, u7] (.int 0)
set_option maxRecDepth 65536 in
set_option maxHeartbeats 40000000 in
theorem rmputc_1_8 (l : Launch) (Z : State) (a0 : Array Value) (hw : ∀ d ∈ tables_1, d.before a0 Z = true) (ws : List Jvm.Cond) (a1 : Addr) (p3 : Int32) (k1 : ClassId) (u0 : Value) (u1 : Value) (u2 : Value) (u3 : Value) (u4 : Value) (u5 : Value) (u6 : Value) (u7 : Value) (h0 : Heap) (n0 : Nat) (Z0 : n0 ≤ h0.size) (O0 : Old Z n0 h0) (qU : (own_SU Z)) (g1 : n0 ≤ a1) (V1 : Arv Z h0 a1 k1 .byte (8 : Int32) [u0, u1, u2, u3, u4, u5, u6, u7] (.int 0)) :
    MetFree l own_m20 (head1 (Jvm.Cond.code own_m20 jdk_52_method_4_code 3 none :: ws) (own_r 0 0 0 0)) (fun a U => a = #[(.ref a1), (.int 1), (.int p3)] ∧ Z.Warmed39 U.vm ∧ U.heap = h0) (fun _ _ _ _ _ => True) (fun _ U o U' => ∃ v L, o = .returned v ∧ Qputc_1_8 Z a1 p3 k1 u0 u1 u2 u3 u4 u5 u6 u7 h0 n0 v U'.heap L ∧ FrameEnd U o U' L (own_r 0 0 0 0).cells (own_r 0 0 0 0).slots) := by
  refine MetFree.of_bodySF (plainFor_of_name pn_20) hisR ?_
  intro p e s m args below meth c s₁ Bd hml0 hP hK
  obtain ⟨rfl, hZ, hh⟩ := hP
  have hx := Bd.exec
  have hby := Bd.bytes
  have hml : c.maxLocals = 3 := hml0
  have hown0 := findClass_of_methodNamed Bd.named
  have hown : s.vm.findClass "java/lang/StringUTF16" = some m.cls := hown0
  have hnm := (name_of_methodNamed Bd.named Bd.method).1
  have X0 : Stand p l e (own_r 0 0 0 0) s m #[(.ref a1), (.int 1), (.int p3)] below meth c s₁ [] 0 0 := Stand.of_body Bd
  have e0 : s₁.heap = h0 := by rw [← hh, Bd.state]; rfl
  have N0 := Fr.nil n0
  obtain ⟨S0, hS0⟩ : ∃ z, z = s₁.setTop (entryFrame m #[(.ref a1), (.int 1), (.int p3)] 3) := ⟨_, rfl⟩
  have pre0 : own_Go p e below S0 (s₁.setTop (mkF m 0 #[.val (.ref a1), .val (.int 1), .val (.int p3)] [])) := fun t k => by rw [hS0]; exact castTop (ef_putc_1_8 m a1 p3) k
  have fin : ∀ t, Steps p.tables e below S0 t → Steps p.tables e below (s₁.setTop (entryFrame m #[(.ref a1), (.int 1), (.int p3)] 3)) t := fun t k => by rw [hS0] at k; exact k
  have kc0 : Keep h0 h0 [a1] := Keep.refl _ _
  obtain ⟨T1, X1, e1, st1⟩ := getS2 X0 hx hZ hown (host := "") (Or.inl (hw _ (own_w 90 rfl))) Via.refl e0 (qU.1.ext O0.2) (g := (mkF m 0 #[.val (.ref a1), .val (.int 1), .val (.int p3)] [])) rfl (hb hby d20_0)
  have pre2 : own_Go p e below S0 (T1.setTop (mkF m 38 #[.val (.ref a1), .val (.int 3), .val (.int p3)] [(.int p3), (.int 2), (.ref a1)])) := by
    intro t kt
    refine pre0 t ?_
    refine st1 _ ?_
    refine XS.ifYes X1.here hx rfl (pc0 := 3) (pc' := 28) rfl (hb hby d20_3) rfl ((if0 _ _).trans (feq (by decide : ¬ ((1 : Int32) = (0 : Int32)))).2) (by decide) (by decide) ?_
    refine XS.iloadN X1.here hx rfl (hb hby d20_28) rfl ?_
    refine XS.iconst X1.here hx rfl (hb hby d20_29) ?_
    refine XS.ishl X1.here hx rfl (hb hby d20_30) rfl ?_
    refine XS.istoreN X1.here hx rfl (hb hby d20_31) rfl (l' := #[.val (.ref a1), .val (.int 2), .val (.int p3)]) rfl ?_
    show Steps p.tables e below (T1.setTop (mkF m 32 #[.val (.ref a1), .val (.int 2), .val (.int p3)] [])) _
    refine XS.aloadN X1.here hx rfl (hb hby d20_32) rfl rfl ?_
    refine XS.iloadN X1.here hx rfl (hb hby d20_33) rfl ?_
    refine XS.iinc X1.here hx rfl (hb hby d20_34) rfl (l' := #[.val (.ref a1), .val (.int 3), .val (.int p3)]) rfl ?_
    refine XS.iloadN X1.here hx rfl (hb hby d20_37) rfl ?_
    exact kt
  obtain ⟨T3, X3, e3, st3⟩ := getS2 X1 hx hZ hown (host := "") (Or.inl (hw _ (own_w 91 rfl))) Via.refl e1 (qU.2.1.ext O0.2) (g := (mkF m 38 #[.val (.ref a1), .val (.int 3), .val (.int p3)] [(.int p3), (.int 2), (.ref a1)])) rfl (hb hby d20_38)
  have pre4 : own_Go p e below S0 (T3.setTop (mkF m 43 #[.val (.ref a1), .val (.int 3), .val (.int p3)] [(.int ((p3 >>> ((0 : Int32) &&& 31)).toInt8.toInt32)), (.int 2), (.ref a1)])) := by
    intro t kt
    refine pre2 t ?_
    refine st3 _ ?_
    refine XS.ishr X3.here hx rfl (hb hby d20_41) rfl ?_
    refine XS.i2b X3.here hx rfl (hb hby d20_42) rfl ?_
    exact kt
  obtain ⟨cl5, Ar5, q5, Sz5, Ng5, Hs5, Gt5⟩ := id V1
  have hin5 : ¬ ((2 : Int32) < 0 ∨ cl5.slots.size ≤ ((2 : Int32)).toNatClampNeg) := inb_of Sz5 ⟨by decide, by decide⟩
  obtain ⟨T5, h5, X5, e5, W5, st5⟩ := stB X3 hx hZ e3 Ar5 (j := (2 : Int32)) hin5 (g := (mkF m 43 #[.val (.ref a1), .val (.int 3), .val (.int p3)] [(.int ((p3 >>> ((0 : Int32) &&& 31)).toInt8.toInt32)), (.int 2), (.ref a1)])) rfl rfl (hb hby d20_43)
  have N5 := Fr.snoc X5 N0 g1
  have zs6 : n0 ≤ h5.size := Nat.le_trans Z0 (Keep.of_wr W5).1
  have kc7 : Keep h0 h5 [a1] := kc0.wr W5 (Or.inl (List.mem_of_getElem? (i := 0) rfl))
  have V5 : Arv Z h5 a1 k1 .byte (8 : Int32) [u0, u1, (.int (nar .byte ((p3 >>> ((0 : Int32) &&& 31)).toInt8.toInt32))), u3, u4, u5, u6, u7] (.int 0) := Arv.set Ar5 q5 Sz5 Ng5 Hs5 Gt5 (fits_nar_byte _) W5 2 rfl (Nat.le_of_ble_eq_true rfl)
  have pre8 : own_Go p e below S0 (T5.setTop (mkF m 47 #[.val (.ref a1), .val (.int 3), .val (.int p3)] [(.int p3), (.int 3), (.ref a1)])) := by
    intro t kt
    refine pre4 t ?_
    refine st5 _ ?_
    refine XS.aloadN X5.here hx rfl (hb hby d20_44) rfl rfl ?_
    refine XS.iloadN X5.here hx rfl (hb hby d20_45) rfl ?_
    refine XS.iloadN X5.here hx rfl (hb hby d20_46) rfl ?_
    exact kt
  have f9 : Old Z n0 h5 := (O0.wr W5 g1)
  obtain ⟨T10, X10, e10, st10⟩ := getS2 X5 hx hZ hown (host := "") (Or.inl (hw _ (own_w 92 rfl))) Via.refl e5 (qU.2.2.ext f9.2) (g := (mkF m 47 #[.val (.ref a1), .val (.int 3), .val (.int p3)] [(.int p3), (.int 3), (.ref a1)])) rfl (hb hby d20_47)
  have pre11 : own_Go p e below S0 (T10.setTop (mkF m 52 #[.val (.ref a1), .val (.int 3), .val (.int p3)] [(.int ((p3 >>> ((8 : Int32) &&& 31)).toInt8.toInt32)), (.int 3), (.ref a1)])) := by
    intro t kt
    refine pre8 t ?_
    refine st10 _ ?_
    refine XS.ishr X10.here hx rfl (hb hby d20_50) rfl ?_
    refine XS.i2b X10.here hx rfl (hb hby d20_51) rfl ?_
    exact kt
  obtain ⟨cl12, Ar12, q12, Sz12, Ng12, Hs12, Gt12⟩ := id V5
  have hin12 : ¬ ((3 : Int32) < 0 ∨ cl12.slots.size ≤ ((3 : Int32)).toNatClampNeg) := inb_of Sz12 ⟨by decide, by decide⟩
  obtain ⟨T12, h12, X12, e12, W12, st12⟩ := stB X10 hx hZ e10 Ar12 (j := (3 : Int32)) hin12 (g := (mkF m 52 #[.val (.ref a1), .val (.int 3), .val (.int p3)] [(.int ((p3 >>> ((8 : Int32) &&& 31)).toInt8.toInt32)), (.int 3), (.ref a1)])) rfl rfl (hb hby d20_52)
  have N12 := Fr.snoc X12 N5 g1
  have zs13 : n0 ≤ h12.size := Nat.le_trans zs6 (Keep.of_wr W12).1
  have kc14 : Keep h0 h12 [a1] := kc7.wr W12 (Or.inl (List.mem_of_getElem? (i := 0) rfl))
  have V12 : Arv Z h12 a1 k1 .byte (8 : Int32) [u0, u1, (.int (nar .byte ((p3 >>> ((0 : Int32) &&& 31)).toInt8.toInt32))), (.int (nar .byte ((p3 >>> ((8 : Int32) &&& 31)).toInt8.toInt32))), u4, u5, u6, u7] (.int 0) := Arv.set Ar12 q12 Sz12 Ng12 Hs12 Gt12 (fits_nar_byte _) W12 3 rfl (Nat.le_of_ble_eq_true rfl)
  have pre15 : own_Go p e below S0 (T12.setTop (mkF m 53 #[.val (.ref a1), .val (.int 3), .val (.int p3)] [])) := by
    intro t kt
    refine pre11 t ?_
    refine st12 _ ?_
    exact kt
  obtain ⟨fs, hr, hrun, hended, hW, hsame⟩ := X12.leave (v := none) (fun _ => rfl)
  refine ⟨_, _, fin _ (pre15 _ ?_), hrun, hended, _, _, rfl, ?_, ⟨_, rfl⟩, hW, hsame.mono (by decide) (by decide)⟩
  · exact X12.returnOut hx Bd.returns (hb hby d20_53) hr
  · show Qputc_1_8 Z a1 p3 k1 u0 u1 u2 u3 u4 u5 u6 u7 h0 n0 _ T12.heap _
    rw [e12]
    exact ⟨rfl, N12, kc14, V12⟩

theorem ef_putc_2_8 (m : MethodId) (x0 : Addr) (x2 : Int32) : entryFrame m #[(.ref x0), (.int 2), (.int x2)] 3 = mkF m 0 #[.val (.ref x0), .val (.int 2), .val (.int x2)] [] := by first | (simp [entryFrame, mkF, argsToLocals, Value.category]; done) | rfl
def Qputc_2_8 (Z : State) (a1 : Addr) (p3 : Int32) (k1 : ClassId) (u0 : Value) (u1 : Value) (u2 : Value) (u3 : Value) (u4 : Value) (u5 : Value) (u6 : Value) (u7 : Value) (h0 : Heap) (n0 : Nat) (v : Option Value) (h : Heap) (L : List Loc) : Prop := v = none ∧ Fr n0 L ∧ Keep h0 h [a1] ∧ Arv Z h a1 k1 .byte (8 : Int32) [u0, u1, u2, u3, (.int (nar .byte ((p3 >>> ((0 : Int32) &&& 31)).toInt8.toInt32))), (.int (nar .byte ((p3 >>> ((8 : Int32) &&& 31)).toInt8.toInt32))), u6, u7] (.int 0)
set_option maxRecDepth 65536 in
set_option maxHeartbeats 40000000 in
theorem rmputc_2_8 (l : Launch) (Z : State) (a0 : Array Value) (hw : ∀ d ∈ tables_1, d.before a0 Z = true) (ws : List Jvm.Cond) (a1 : Addr) (p3 : Int32) (k1 : ClassId) (u0 : Value) (u1 : Value) (u2 : Value) (u3 : Value) (u4 : Value) (u5 : Value) (u6 : Value) (u7 : Value) (h0 : Heap) (n0 : Nat) (Z0 : n0 ≤ h0.size) (O0 : Old Z n0 h0) (qU : (own_SU Z)) (g1 : n0 ≤ a1) (V1 : Arv Z h0 a1 k1 .byte (8 : Int32) [u0, u1, u2, u3, u4, u5, u6, u7] (.int 0)) :
    MetFree l own_m20 (head1 (Jvm.Cond.code own_m20 jdk_52_method_4_code 3 none :: ws) (own_r 0 0 0 0)) (fun a U => a = #[(.ref a1), (.int 2), (.int p3)] ∧ Z.Warmed39 U.vm ∧ U.heap = h0) (fun _ _ _ _ _ => True) (fun _ U o U' => ∃ v L, o = .returned v ∧ Qputc_2_8 Z a1 p3 k1 u0 u1 u2 u3 u4 u5 u6 u7 h0 n0 v U'.heap L ∧ FrameEnd U o U' L (own_r 0 0 0 0).cells (own_r 0 0 0 0).slots) := by
  refine MetFree.of_bodySF (plainFor_of_name pn_20) hisR ?_
  intro p e s m args below meth c s₁ Bd hml0 hP hK
  obtain ⟨rfl, hZ, hh⟩ := hP
  have hx := Bd.exec
  have hby := Bd.bytes
  have hml : c.maxLocals = 3 := hml0
  have hown0 := findClass_of_methodNamed Bd.named
  have hown : s.vm.findClass "java/lang/StringUTF16" = some m.cls := hown0
  have hnm := (name_of_methodNamed Bd.named Bd.method).1
  have X0 : Stand p l e (own_r 0 0 0 0) s m #[(.ref a1), (.int 2), (.int p3)] below meth c s₁ [] 0 0 := Stand.of_body Bd
  have e0 : s₁.heap = h0 := by rw [← hh, Bd.state]; rfl
  have N0 := Fr.nil n0
  obtain ⟨S0, hS0⟩ : ∃ z, z = s₁.setTop (entryFrame m #[(.ref a1), (.int 2), (.int p3)] 3) := ⟨_, rfl⟩
  have pre0 : own_Go p e below S0 (s₁.setTop (mkF m 0 #[.val (.ref a1), .val (.int 2), .val (.int p3)] [])) := fun t k => by rw [hS0]; exact castTop (ef_putc_2_8 m a1 p3) k
  have fin : ∀ t, Steps p.tables e below S0 t → Steps p.tables e below (s₁.setTop (entryFrame m #[(.ref a1), (.int 2), (.int p3)] 3)) t := fun t k => by rw [hS0] at k; exact k
  have kc0 : Keep h0 h0 [a1] := Keep.refl _ _
  obtain ⟨T1, X1, e1, st1⟩ := getS2 X0 hx hZ hown (host := "") (Or.inl (hw _ (own_w 90 rfl))) Via.refl e0 (qU.1.ext O0.2) (g := (mkF m 0 #[.val (.ref a1), .val (.int 2), .val (.int p3)] [])) rfl (hb hby d20_0)
  have pre2 : own_Go p e below S0 (T1.setTop (mkF m 38 #[.val (.ref a1), .val (.int 5), .val (.int p3)] [(.int p3), (.int 4), (.ref a1)])) := by
    intro t kt
    refine pre0 t ?_
    refine st1 _ ?_
    refine XS.ifYes X1.here hx rfl (pc0 := 3) (pc' := 28) rfl (hb hby d20_3) rfl ((if0 _ _).trans (feq (by decide : ¬ ((1 : Int32) = (0 : Int32)))).2) (by decide) (by decide) ?_
    refine XS.iloadN X1.here hx rfl (hb hby d20_28) rfl ?_
    refine XS.iconst X1.here hx rfl (hb hby d20_29) ?_
    refine XS.ishl X1.here hx rfl (hb hby d20_30) rfl ?_
    refine XS.istoreN X1.here hx rfl (hb hby d20_31) rfl (l' := #[.val (.ref a1), .val (.int 4), .val (.int p3)]) rfl ?_
    show Steps p.tables e below (T1.setTop (mkF m 32 #[.val (.ref a1), .val (.int 4), .val (.int p3)] [])) _
    refine XS.aloadN X1.here hx rfl (hb hby d20_32) rfl rfl ?_
    refine XS.iloadN X1.here hx rfl (hb hby d20_33) rfl ?_
    refine XS.iinc X1.here hx rfl (hb hby d20_34) rfl (l' := #[.val (.ref a1), .val (.int 5), .val (.int p3)]) rfl ?_
    refine XS.iloadN X1.here hx rfl (hb hby d20_37) rfl ?_
    exact kt
  obtain ⟨T3, X3, e3, st3⟩ := getS2 X1 hx hZ hown (host := "") (Or.inl (hw _ (own_w 91 rfl))) Via.refl e1 (qU.2.1.ext O0.2) (g := (mkF m 38 #[.val (.ref a1), .val (.int 5), .val (.int p3)] [(.int p3), (.int 4), (.ref a1)])) rfl (hb hby d20_38)
  have pre4 : own_Go p e below S0 (T3.setTop (mkF m 43 #[.val (.ref a1), .val (.int 5), .val (.int p3)] [(.int ((p3 >>> ((0 : Int32) &&& 31)).toInt8.toInt32)), (.int 4), (.ref a1)])) := by
    intro t kt
    refine pre2 t ?_
    refine st3 _ ?_
    refine XS.ishr X3.here hx rfl (hb hby d20_41) rfl ?_
    refine XS.i2b X3.here hx rfl (hb hby d20_42) rfl ?_
    exact kt
  obtain ⟨cl5, Ar5, q5, Sz5, Ng5, Hs5, Gt5⟩ := id V1
  have hin5 : ¬ ((4 : Int32) < 0 ∨ cl5.slots.size ≤ ((4 : Int32)).toNatClampNeg) := inb_of Sz5 ⟨by decide, by decide⟩
  obtain ⟨T5, h5, X5, e5, W5, st5⟩ := stB X3 hx hZ e3 Ar5 (j := (4 : Int32)) hin5 (g := (mkF m 43 #[.val (.ref a1), .val (.int 5), .val (.int p3)] [(.int ((p3 >>> ((0 : Int32) &&& 31)).toInt8.toInt32)), (.int 4), (.ref a1)])) rfl rfl (hb hby d20_43)
  have N5 := Fr.snoc X5 N0 g1
  have zs6 : n0 ≤ h5.size := Nat.le_trans Z0 (Keep.of_wr W5).1
  have kc7 : Keep h0 h5 [a1] := kc0.wr W5 (Or.inl (List.mem_of_getElem? (i := 0) rfl))
  have V5 : Arv Z h5 a1 k1 .byte (8 : Int32) [u0, u1, u2, u3, (.int (nar .byte ((p3 >>> ((0 : Int32) &&& 31)).toInt8.toInt32))), u5, u6, u7] (.int 0) := Arv.set Ar5 q5 Sz5 Ng5 Hs5 Gt5 (fits_nar_byte _) W5 4 rfl (Nat.le_of_ble_eq_true rfl)
  have pre8 : own_Go p e below S0 (T5.setTop (mkF m 47 #[.val (.ref a1), .val (.int 5), .val (.int p3)] [(.int p3), (.int 5), (.ref a1)])) := by
    intro t kt
    refine pre4 t ?_
    refine st5 _ ?_
    refine XS.aloadN X5.here hx rfl (hb hby d20_44) rfl rfl ?_
    refine XS.iloadN X5.here hx rfl (hb hby d20_45) rfl ?_
    refine XS.iloadN X5.here hx rfl (hb hby d20_46) rfl ?_
    exact kt
  have f9 : Old Z n0 h5 := (O0.wr W5 g1)
  obtain ⟨T10, X10, e10, st10⟩ := getS2 X5 hx hZ hown (host := "") (Or.inl (hw _ (own_w 92 rfl))) Via.refl e5 (qU.2.2.ext f9.2) (g := (mkF m 47 #[.val (.ref a1), .val (.int 5), .val (.int p3)] [(.int p3), (.int 5), (.ref a1)])) rfl (hb hby d20_47)
  have pre11 : own_Go p e below S0 (T10.setTop (mkF m 52 #[.val (.ref a1), .val (.int 5), .val (.int p3)] [(.int ((p3 >>> ((8 : Int32) &&& 31)).toInt8.toInt32)), (.int 5), (.ref a1)])) := by
    intro t kt
    refine pre8 t ?_
    refine st10 _ ?_
    refine XS.ishr X10.here hx rfl (hb hby d20_50) rfl ?_
    refine XS.i2b X10.here hx rfl (hb hby d20_51) rfl ?_
    exact kt
  obtain ⟨cl12, Ar12, q12, Sz12, Ng12, Hs12, Gt12⟩ := id V5
  have hin12 : ¬ ((5 : Int32) < 0 ∨ cl12.slots.size ≤ ((5 : Int32)).toNatClampNeg) := inb_of Sz12 ⟨by decide, by decide⟩
  obtain ⟨T12, h12, X12, e12, W12, st12⟩ := stB X10 hx hZ e10 Ar12 (j := (5 : Int32)) hin12 (g := (mkF m 52 #[.val (.ref a1), .val (.int 5), .val (.int p3)] [(.int ((p3 >>> ((8 : Int32) &&& 31)).toInt8.toInt32)), (.int 5), (.ref a1)])) rfl rfl (hb hby d20_52)
  have N12 := Fr.snoc X12 N5 g1
  have zs13 : n0 ≤ h12.size := Nat.le_trans zs6 (Keep.of_wr W12).1
  have kc14 : Keep h0 h12 [a1] := kc7.wr W12 (Or.inl (List.mem_of_getElem? (i := 0) rfl))
  have V12 : Arv Z h12 a1 k1 .byte (8 : Int32) [u0, u1, u2, u3, (.int (nar .byte ((p3 >>> ((0 : Int32) &&& 31)).toInt8.toInt32))), (.int (nar .byte ((p3 >>> ((8 : Int32) &&& 31)).toInt8.toInt32))), u6, u7] (.int 0) := Arv.set Ar12 q12 Sz12 Ng12 Hs12 Gt12 (fits_nar_byte _) W12 5 rfl (Nat.le_of_ble_eq_true rfl)
  have pre15 : own_Go p e below S0 (T12.setTop (mkF m 53 #[.val (.ref a1), .val (.int 5), .val (.int p3)] [])) := by
    intro t kt
    refine pre11 t ?_
    refine st12 _ ?_
    exact kt
  obtain ⟨fs, hr, hrun, hended, hW, hsame⟩ := X12.leave (v := none) (fun _ => rfl)
  refine ⟨_, _, fin _ (pre15 _ ?_), hrun, hended, _, _, rfl, ?_, ⟨_, rfl⟩, hW, hsame.mono (by decide) (by decide)⟩
  · exact X12.returnOut hx Bd.returns (hb hby d20_53) hr
  · show Qputc_2_8 Z a1 p3 k1 u0 u1 u2 u3 u4 u5 u6 u7 h0 n0 _ T12.heap _
    rw [e12]
    exact ⟨rfl, N12, kc14, V12⟩

theorem ef_putc_3_8 (m : MethodId) (x0 : Addr) (x2 : Int32) : entryFrame m #[(.ref x0), (.int 3), (.int x2)] 3 = mkF m 0 #[.val (.ref x0), .val (.int 3), .val (.int x2)] [] := by first | (simp [entryFrame, mkF, argsToLocals, Value.category]; done) | rfl
def Qputc_3_8 (Z : State) (a1 : Addr) (p3 : Int32) (k1 : ClassId) (u0 : Value) (u1 : Value) (u2 : Value) (u3 : Value) (u4 : Value) (u5 : Value) (u6 : Value) (u7 : Value) (h0 : Heap) (n0 : Nat) (v : Option Value) (h : Heap) (L : List Loc) : Prop := v = none ∧ Fr n0 L ∧ Keep h0 h [a1] ∧ Arv Z h a1 k1 .byte (8 : Int32) [u0, u1, u2, u3, u4, u5, (.int (nar .byte ((p3 >>> ((0 : Int32) &&& 31)).toInt8.toInt32))), (.int (nar .byte ((p3 >>> ((8 : Int32) &&& 31)).toInt8.toInt32)))] (.int 0)
set_option maxRecDepth 65536 in
set_option maxHeartbeats 40000000 in
theorem rmputc_3_8 (l : Launch) (Z : State) (a0 : Array Value) (hw : ∀ d ∈ tables_1, d.before a0 Z = true) (ws : List Jvm.Cond) (a1 : Addr) (p3 : Int32) (k1 : ClassId) (u0 : Value) (u1 : Value) (u2 : Value) (u3 : Value) (u4 : Value) (u5 : Value) (u6 : Value) (u7 : Value) (h0 : Heap) (n0 : Nat) (Z0 : n0 ≤ h0.size) (O0 : Old Z n0 h0) (qU : (own_SU Z)) (g1 : n0 ≤ a1) (V1 : Arv Z h0 a1 k1 .byte (8 : Int32) [u0, u1, u2, u3, u4, u5, u6, u7] (.int 0)) :
    MetFree l own_m20 (head1 (Jvm.Cond.code own_m20 jdk_52_method_4_code 3 none :: ws) (own_r 0 0 0 0)) (fun a U => a = #[(.ref a1), (.int 3), (.int p3)] ∧ Z.Warmed39 U.vm ∧ U.heap = h0) (fun _ _ _ _ _ => True) (fun _ U o U' => ∃ v L, o = .returned v ∧ Qputc_3_8 Z a1 p3 k1 u0 u1 u2 u3 u4 u5 u6 u7 h0 n0 v U'.heap L ∧ FrameEnd U o U' L (own_r 0 0 0 0).cells (own_r 0 0 0 0).slots) := by
  refine MetFree.of_bodySF (plainFor_of_name pn_20) hisR ?_
  intro p e s m args below meth c s₁ Bd hml0 hP hK
  obtain ⟨rfl, hZ, hh⟩ := hP
  have hx := Bd.exec
  have hby := Bd.bytes
  have hml : c.maxLocals = 3 := hml0
  have hown0 := findClass_of_methodNamed Bd.named
  have hown : s.vm.findClass "java/lang/StringUTF16" = some m.cls := hown0
  have hnm := (name_of_methodNamed Bd.named Bd.method).1
  have X0 : Stand p l e (own_r 0 0 0 0) s m #[(.ref a1), (.int 3), (.int p3)] below meth c s₁ [] 0 0 := Stand.of_body Bd
  have e0 : s₁.heap = h0 := by rw [← hh, Bd.state]; rfl
  have N0 := Fr.nil n0
  obtain ⟨S0, hS0⟩ : ∃ z, z = s₁.setTop (entryFrame m #[(.ref a1), (.int 3), (.int p3)] 3) := ⟨_, rfl⟩
  have pre0 : own_Go p e below S0 (s₁.setTop (mkF m 0 #[.val (.ref a1), .val (.int 3), .val (.int p3)] [])) := fun t k => by rw [hS0]; exact castTop (ef_putc_3_8 m a1 p3) k
  have fin : ∀ t, Steps p.tables e below S0 t → Steps p.tables e below (s₁.setTop (entryFrame m #[(.ref a1), (.int 3), (.int p3)] 3)) t := fun t k => by rw [hS0] at k; exact k
  have kc0 : Keep h0 h0 [a1] := Keep.refl _ _
  obtain ⟨T1, X1, e1, st1⟩ := getS2 X0 hx hZ hown (host := "") (Or.inl (hw _ (own_w 90 rfl))) Via.refl e0 (qU.1.ext O0.2) (g := (mkF m 0 #[.val (.ref a1), .val (.int 3), .val (.int p3)] [])) rfl (hb hby d20_0)
  have pre2 : own_Go p e below S0 (T1.setTop (mkF m 38 #[.val (.ref a1), .val (.int 7), .val (.int p3)] [(.int p3), (.int 6), (.ref a1)])) := by
    intro t kt
    refine pre0 t ?_
    refine st1 _ ?_
    refine XS.ifYes X1.here hx rfl (pc0 := 3) (pc' := 28) rfl (hb hby d20_3) rfl ((if0 _ _).trans (feq (by decide : ¬ ((1 : Int32) = (0 : Int32)))).2) (by decide) (by decide) ?_
    refine XS.iloadN X1.here hx rfl (hb hby d20_28) rfl ?_
    refine XS.iconst X1.here hx rfl (hb hby d20_29) ?_
    refine XS.ishl X1.here hx rfl (hb hby d20_30) rfl ?_
    refine XS.istoreN X1.here hx rfl (hb hby d20_31) rfl (l' := #[.val (.ref a1), .val (.int 6), .val (.int p3)]) rfl ?_
    show Steps p.tables e below (T1.setTop (mkF m 32 #[.val (.ref a1), .val (.int 6), .val (.int p3)] [])) _
    refine XS.aloadN X1.here hx rfl (hb hby d20_32) rfl rfl ?_
    refine XS.iloadN X1.here hx rfl (hb hby d20_33) rfl ?_
    refine XS.iinc X1.here hx rfl (hb hby d20_34) rfl (l' := #[.val (.ref a1), .val (.int 7), .val (.int p3)]) rfl ?_
    refine XS.iloadN X1.here hx rfl (hb hby d20_37) rfl ?_
    exact kt
  obtain ⟨T3, X3, e3, st3⟩ := getS2 X1 hx hZ hown (host := "") (Or.inl (hw _ (own_w 91 rfl))) Via.refl e1 (qU.2.1.ext O0.2) (g := (mkF m 38 #[.val (.ref a1), .val (.int 7), .val (.int p3)] [(.int p3), (.int 6), (.ref a1)])) rfl (hb hby d20_38)
  have pre4 : own_Go p e below S0 (T3.setTop (mkF m 43 #[.val (.ref a1), .val (.int 7), .val (.int p3)] [(.int ((p3 >>> ((0 : Int32) &&& 31)).toInt8.toInt32)), (.int 6), (.ref a1)])) := by
    intro t kt
    refine pre2 t ?_
    refine st3 _ ?_
    refine XS.ishr X3.here hx rfl (hb hby d20_41) rfl ?_
    refine XS.i2b X3.here hx rfl (hb hby d20_42) rfl ?_
    exact kt
  obtain ⟨cl5, Ar5, q5, Sz5, Ng5, Hs5, Gt5⟩ := id V1
  have hin5 : ¬ ((6 : Int32) < 0 ∨ cl5.slots.size ≤ ((6 : Int32)).toNatClampNeg) := inb_of Sz5 ⟨by decide, by decide⟩
  obtain ⟨T5, h5, X5, e5, W5, st5⟩ := stB X3 hx hZ e3 Ar5 (j := (6 : Int32)) hin5 (g := (mkF m 43 #[.val (.ref a1), .val (.int 7), .val (.int p3)] [(.int ((p3 >>> ((0 : Int32) &&& 31)).toInt8.toInt32)), (.int 6), (.ref a1)])) rfl rfl (hb hby d20_43)
  have N5 := Fr.snoc X5 N0 g1
  have zs6 : n0 ≤ h5.size := Nat.le_trans Z0 (Keep.of_wr W5).1
  have kc7 : Keep h0 h5 [a1] := kc0.wr W5 (Or.inl (List.mem_of_getElem? (i := 0) rfl))
  have V5 : Arv Z h5 a1 k1 .byte (8 : Int32) [u0, u1, u2, u3, u4, u5, (.int (nar .byte ((p3 >>> ((0 : Int32) &&& 31)).toInt8.toInt32))), u7] (.int 0) := Arv.set Ar5 q5 Sz5 Ng5 Hs5 Gt5 (fits_nar_byte _) W5 6 rfl (Nat.le_of_ble_eq_true rfl)
  have pre8 : own_Go p e below S0 (T5.setTop (mkF m 47 #[.val (.ref a1), .val (.int 7), .val (.int p3)] [(.int p3), (.int 7), (.ref a1)])) := by
    intro t kt
    refine pre4 t ?_
    refine st5 _ ?_
    refine XS.aloadN X5.here hx rfl (hb hby d20_44) rfl rfl ?_
    refine XS.iloadN X5.here hx rfl (hb hby d20_45) rfl ?_
    refine XS.iloadN X5.here hx rfl (hb hby d20_46) rfl ?_
    exact kt
  have f9 : Old Z n0 h5 := (O0.wr W5 g1)
  obtain ⟨T10, X10, e10, st10⟩ := getS2 X5 hx hZ hown (host := "") (Or.inl (hw _ (own_w 92 rfl))) Via.refl e5 (qU.2.2.ext f9.2) (g := (mkF m 47 #[.val (.ref a1), .val (.int 7), .val (.int p3)] [(.int p3), (.int 7), (.ref a1)])) rfl (hb hby d20_47)
  have pre11 : own_Go p e below S0 (T10.setTop (mkF m 52 #[.val (.ref a1), .val (.int 7), .val (.int p3)] [(.int ((p3 >>> ((8 : Int32) &&& 31)).toInt8.toInt32)), (.int 7), (.ref a1)])) := by
    intro t kt
    refine pre8 t ?_
    refine st10 _ ?_
    refine XS.ishr X10.here hx rfl (hb hby d20_50) rfl ?_
    refine XS.i2b X10.here hx rfl (hb hby d20_51) rfl ?_
    exact kt
  obtain ⟨cl12, Ar12, q12, Sz12, Ng12, Hs12, Gt12⟩ := id V5
  have hin12 : ¬ ((7 : Int32) < 0 ∨ cl12.slots.size ≤ ((7 : Int32)).toNatClampNeg) := inb_of Sz12 ⟨by decide, by decide⟩
  obtain ⟨T12, h12, X12, e12, W12, st12⟩ := stB X10 hx hZ e10 Ar12 (j := (7 : Int32)) hin12 (g := (mkF m 52 #[.val (.ref a1), .val (.int 7), .val (.int p3)] [(.int ((p3 >>> ((8 : Int32) &&& 31)).toInt8.toInt32)), (.int 7), (.ref a1)])) rfl rfl (hb hby d20_52)
  have N12 := Fr.snoc X12 N5 g1
  have zs13 : n0 ≤ h12.size := Nat.le_trans zs6 (Keep.of_wr W12).1
  have kc14 : Keep h0 h12 [a1] := kc7.wr W12 (Or.inl (List.mem_of_getElem? (i := 0) rfl))
  have V12 : Arv Z h12 a1 k1 .byte (8 : Int32) [u0, u1, u2, u3, u4, u5, (.int (nar .byte ((p3 >>> ((0 : Int32) &&& 31)).toInt8.toInt32))), (.int (nar .byte ((p3 >>> ((8 : Int32) &&& 31)).toInt8.toInt32)))] (.int 0) := Arv.set Ar12 q12 Sz12 Ng12 Hs12 Gt12 (fits_nar_byte _) W12 7 rfl (Nat.le_of_ble_eq_true rfl)
  have pre15 : own_Go p e below S0 (T12.setTop (mkF m 53 #[.val (.ref a1), .val (.int 7), .val (.int p3)] [])) := by
    intro t kt
    refine pre11 t ?_
    refine st12 _ ?_
    exact kt
  obtain ⟨fs, hr, hrun, hended, hW, hsame⟩ := X12.leave (v := none) (fun _ => rfl)
  refine ⟨_, _, fin _ (pre15 _ ?_), hrun, hended, _, _, rfl, ?_, ⟨_, rfl⟩, hW, hsame.mono (by decide) (by decide)⟩
  · exact X12.returnOut hx Bd.returns (hb hby d20_53) hr
  · show Qputc_3_8 Z a1 p3 k1 u0 u1 u2 u3 u4 u5 u6 u7 h0 n0 _ T12.heap _
    rw [e12]
    exact ⟨rfl, N12, kc14, V12⟩

theorem ef_toB_4 (m : MethodId) (x0 : Addr) : entryFrame m #[(.ref x0), (.int 0), (.int 4)] 5 = mkF m 0 #[.val (.ref x0), .val (.int 0), .val (.int 4), .unset, .unset] [] := by first | (simp [entryFrame, mkF, argsToLocals, Value.category]; done) | rfl
def QtoB_4 (Z : State) (a1 : Addr) (kc : ClassId) (c0 : Int32) (c1 : Int32) (c2 : Int32) (c3 : Int32) (h0 : Heap) (n0 : Nat) (v : Option Value) (h : Heap) (L : List Loc) : Prop := ∃ b : Addr, ∃ kb : ClassId, v = (some (.ref b)) ∧ Fr n0 L ∧ Keep h0 h [] ∧ h0.size ≤ b ∧ Arv Z h b kb .byte (8 : Int32) [(.int (nar .byte ((c0 >>> ((0 : Int32) &&& 31)).toInt8.toInt32))), (.int (nar .byte ((c0 >>> ((8 : Int32) &&& 31)).toInt8.toInt32))), (.int (nar .byte ((c1 >>> ((0 : Int32) &&& 31)).toInt8.toInt32))), (.int (nar .byte ((c1 >>> ((8 : Int32) &&& 31)).toInt8.toInt32))), (.int (nar .byte ((c2 >>> ((0 : Int32) &&& 31)).toInt8.toInt32))), (.int (nar .byte ((c2 >>> ((8 : Int32) &&& 31)).toInt8.toInt32))), (.int (nar .byte ((c3 >>> ((0 : Int32) &&& 31)).toInt8.toInt32))), (.int (nar .byte ((c3 >>> ((8 : Int32) &&& 31)).toInt8.toInt32)))] (.int 0)
set_option maxRecDepth 65536 in
set_option maxHeartbeats 40000000 in
theorem rmtoB_4 (l : Launch) (Z : State) (a0 : Array Value) (hw : ∀ d ∈ tables_1, d.before a0 Z = true) (ws : List Jvm.Cond) (a1 : Addr) (kc : ClassId) (c0 : Int32) (c1 : Int32) (c2 : Int32) (c3 : Int32) (h0 : Heap) (n0 : Nat) (Z0 : n0 ≤ h0.size) (O0 : Old Z n0 h0) (qU : (own_SU Z)) (VC : Arv Z h0 a1 kc .char (4 : Int32) [(.int c0), (.int c1), (.int c2), (.int c3)] (.int 0)) :
    MetFree l own_m21 (head1 (Jvm.Cond.code own_m21 jdk_52_method_14_code 5 (some (.array .byte)) :: ws) (own_r 2 1 8 24)) (fun a U => a = #[(.ref a1), (.int 0), (.int 4)] ∧ Z.Warmed39 U.vm ∧ U.heap = h0) (fun _ _ _ _ _ => True) (fun _ U o U' => ∃ v L, o = .returned v ∧ QtoB_4 Z a1 kc c0 c1 c2 c3 h0 n0 v U'.heap L ∧ FrameEnd U o U' L (own_r 2 1 8 24).cells (own_r 2 1 8 24).slots) := by
  refine MetFree.of_bodySF (plainFor_of_name pn_17) hisR ?_
  intro p e s m args below meth c s₁ Bd hml0 hP hK
  obtain ⟨rfl, hZ, hh⟩ := hP
  have hx := Bd.exec
  have hby := Bd.bytes
  have hml : c.maxLocals = 5 := hml0
  have hown0 := findClass_of_methodNamed Bd.named
  have hown : s.vm.findClass "java/lang/StringUTF16" = some m.cls := hown0
  have hnm := (name_of_methodNamed Bd.named Bd.method).1
  have X0 : Stand p l e (own_r 2 1 8 24) s m #[(.ref a1), (.int 0), (.int 4)] below meth c s₁ [] 0 0 := Stand.of_body Bd
  have e0 : s₁.heap = h0 := by rw [← hh, Bd.state]; rfl
  have N0 := Fr.nil n0
  obtain ⟨S0, hS0⟩ : ∃ z, z = s₁.setTop (entryFrame m #[(.ref a1), (.int 0), (.int 4)] 5) := ⟨_, rfl⟩
  have pre0 : own_Go p e below S0 (s₁.setTop (mkF m 0 #[.val (.ref a1), .val (.int 0), .val (.int 4), .unset, .unset] [])) := fun t k => by rw [hS0]; exact castTop (ef_toB_4 m a1) k
  have fin : ∀ t, Steps p.tables e below S0 t → Steps p.tables e below (s₁.setTop (entryFrame m #[(.ref a1), (.int 0), (.int 4)] 5)) t := fun t k => by rw [hS0] at k; exact k
  have kc0 : Keep h0 h0 [] := Keep.refl _ _
  have pre1 : own_Go p e below S0 (s₁.setTop (mkF m 1 #[.val (.ref a1), .val (.int 0), .val (.int 4), .unset, .unset] [(.int 4)])) := by
    intro t kt
    refine pre0 t ?_
    refine XS.iloadN X0.here hx rfl (hb hby d17_0) rfl ?_
    exact kt
  obtain ⟨_, _, ⟨T2, L2, k2, n2⟩, -, X2, ⟨Lc2, hQ2, l2, y2, z2⟩, st2⟩ := Jvm.LawKit.callS X0 hx (y := own_m18) hown (mvT hZ (hw _ (own_w 80 rfl))) (mvT hZ (hw _ (own_w 81 rfl))) (mvT hZ (hw _ (own_w 40 rfl))) (mvT hZ (hw _ (own_w 82 rfl))) (by decide) (backOf (W := 0) (rmnfor_4 l Z a0 hw []  h0 n0 Z0 ) hZ (hw _ (own_w 82 rfl)) (hw _ (own_w 40 rfl)) (by decide) (by decide)) (g := (mkF m 1 #[.val (.ref a1), .val (.int 0), .val (.int 4), .unset, .unset] [(.int 4)])) rfl (by rw [hml]; rfl) (argsL := [(.int 4)]) (rest := []) (lenOf pd_3 rfl) rfl (by show 2 * 0 + _ ≤ _; exact Nat.le_of_eq rfl) (hb hby d17_1) (fun _ _ => ⟨rfl, e0, (by decide : 0 + 1 ≤ _), (by decide : 0 + 8 ≤ _)⟩)
  dsimp only [Pt.U, Pt.locs, Pt.cells, Pt.slots] at X2 l2 y2 z2 st2 hQ2
  subst l2 y2 z2
  obtain ⟨b3, kb4, rfl, Nq2, K2, g5, g6⟩ := hQ2
  have N2 := Fr.app N0 Nq2
  have ne7 : a1 ≠ b3 := Nat.ne_of_lt (Nat.lt_of_lt_of_le VC.lt g5)
  have ge8 : n0 ≤ b3 := Nat.le_trans Z0 g5
  have sz9 : h0.size ≤ b3 := Nat.le_trans kc0.1 g5
  have zs10 : n0 ≤ T2.heap.size := Nat.le_trans Z0 K2.1
  have kc11 : Keep h0 T2.heap [] := kc0.trans K2 all0
  have pre12 : own_Go p e below S0 (T2.setTop (mkF m 19 #[.val (.ref a1), .val (.int 0), .val (.int 4), .val (.ref b3), .val (.int 0)] [(.int 0), (.ref a1), (.int 0), (.ref b3)])) := by
    intro t kt
    refine pre1 t ?_
    refine st2 _ ?_
    show Steps p.tables e below (T2.setTop (mkF m 4 #[.val (.ref a1), .val (.int 0), .val (.int 4), .unset, .unset] [(.ref b3)])) _
    refine XS.astoreN X2.here hx rfl (hb hby d17_4) rfl rfl (l' := #[.val (.ref a1), .val (.int 0), .val (.int 4), .val (.ref b3), .unset]) rfl ?_
    refine XS.iconst X2.here hx rfl (hb hby d17_5) ?_
    refine XS.istore X2.here hx rfl (hb hby d17_6) rfl (l' := #[.val (.ref a1), .val (.int 0), .val (.int 4), .val (.ref b3), .val (.int 0)]) rfl ?_
    refine XS.iload X2.here hx rfl (hb hby d17_8) rfl ?_
    refine XS.iloadN X2.here hx rfl (hb hby d17_10) rfl ?_
    show Steps p.tables e below (T2.setTop (mkF m 11 #[.val (.ref a1), .val (.int 0), .val (.int 4), .val (.ref b3), .val (.int 0)] [(.int 4), (.int 0)])) _
    refine XS.icmpNo X2.here hx rfl (hb hby d17_11) rfl (tlt (by decide : (0 : Int32) < (4 : Int32))).2.1 ?_
    refine XS.aloadN X2.here hx rfl (hb hby d17_14) rfl rfl ?_
    refine XS.iload X2.here hx rfl (hb hby d17_15) rfl ?_
    refine XS.aloadN X2.here hx rfl (hb hby d17_17) rfl rfl ?_
    refine XS.iloadN X2.here hx rfl (hb hby d17_18) rfl ?_
    exact kt
  have f13 : Arv Z T2.heap a1 kc .char (4 : Int32) [(.int c0), (.int c1), (.int c2), (.int c3)] (.int 0) := (VC.keep K2 nin0)
  obtain ⟨cl14, Ar14, -, Sz14, -, Hs14, -⟩ := id f13
  have hin14 : ¬ ((0 : Int32) < 0 ∨ cl14.slots.size ≤ ((0 : Int32)).toNatClampNeg) := inb_of Sz14 ⟨by decide, by decide⟩
  have pre15 : own_Go p e below S0 (T2.setTop (mkF m 20 #[.val (.ref a1), .val (.int 0), .val (.int 4), .val (.ref b3), .val (.int 0)] [(.int c0), (.int 0), (.ref b3)])) := by
    intro t kt
    refine pre12 t ?_
    refine X2.caload hx (j := (0 : Int32)) (v := (.int c0)) Ar14.1 (State.isArrayOf_alike hZ.alike Ar14.2.1) Ar14.2.2 hin14 (Hs14.at hin14 rfl) (g := (mkF m 19 #[.val (.ref a1), .val (.int 0), .val (.int 4), .val (.ref b3), .val (.int 0)] [(.int 0), (.ref a1), (.int 0), (.ref b3)])) rfl rfl (hb hby d17_19) _ ?_
    exact kt
  have f16 : Old Z n0 T2.heap := (O0.keep K2 all0)
  obtain ⟨_, _, ⟨T17, L17, k17, n17⟩, -, X17, ⟨Lc17, hQ17, l17, y17, z17⟩, st17⟩ := Jvm.LawKit.callS X2 hx (y := own_m20) hown (mvT hZ (hw _ (own_w 87 rfl))) (mvT hZ (hw _ (own_w 88 rfl))) (mvT hZ (hw _ (own_w 40 rfl))) (mvT hZ (hw _ (own_w 89 rfl))) (by decide) (backOf (W := 0) (rmputc_0_8 l Z a0 hw [] b3 c0 kb4 (.int 0) (.int 0) (.int 0) (.int 0) (.int 0) (.int 0) (.int 0) (.int 0) T2.heap n0 zs10 f16 qU ge8 g6) hZ (hw _ (own_w 89 rfl)) (hw _ (own_w 40 rfl)) (by decide) (by decide)) (g := (mkF m 20 #[.val (.ref a1), .val (.int 0), .val (.int 4), .val (.ref b3), .val (.int 0)] [(.int c0), (.int 0), (.ref b3)])) rfl (by rw [hml]; rfl) (argsL := [(.ref b3), (.int 0), (.int c0)]) (rest := []) (lenOf pd_4 rfl) rfl (by show 2 * 0 + _ ≤ _; exact Nat.le_of_eq rfl) (hb hby d17_20) (fun _ _ => ⟨rfl, rfl, (by decide : 1 + 0 ≤ _), (by decide : 8 + 0 ≤ _)⟩)
  dsimp only [Pt.U, Pt.locs, Pt.cells, Pt.slots] at X17 l17 y17 z17 st17 hQ17
  subst l17 y17 z17
  obtain ⟨rfl, Nq17, K17, g18⟩ := hQ17
  have N17 := Fr.app N2 Nq17
  have zs19 : n0 ≤ T17.heap.size := Nat.le_trans zs10 K17.1
  have kc20 : Keep h0 T17.heap [] := kc11.trans K17 (allS (Or.inr sz9) all0)
  have pre21 : own_Go p e below S0 (T17.setTop (mkF m 19 #[.val (.ref a1), .val (.int 1), .val (.int 4), .val (.ref b3), .val (.int 1)] [(.int 1), (.ref a1), (.int 1), (.ref b3)])) := by
    intro t kt
    refine pre15 t ?_
    refine st17 _ ?_
    show Steps p.tables e below (T17.setTop (mkF m 23 #[.val (.ref a1), .val (.int 0), .val (.int 4), .val (.ref b3), .val (.int 0)] [])) _
    refine XS.iinc X17.here hx rfl (hb hby d17_23) rfl (l' := #[.val (.ref a1), .val (.int 1), .val (.int 4), .val (.ref b3), .val (.int 0)]) rfl ?_
    refine XS.iinc X17.here hx rfl (hb hby d17_26) rfl (l' := #[.val (.ref a1), .val (.int 1), .val (.int 4), .val (.ref b3), .val (.int 1)]) rfl ?_
    refine XS.goto X17.here hx rfl (pc0 := 29) (pc' := 8) rfl (hb hby d17_29) (by decide) (by decide) ?_
    refine XS.iload X17.here hx rfl (hb hby d17_8) rfl ?_
    refine XS.iloadN X17.here hx rfl (hb hby d17_10) rfl ?_
    show Steps p.tables e below (T17.setTop (mkF m 11 #[.val (.ref a1), .val (.int 1), .val (.int 4), .val (.ref b3), .val (.int 1)] [(.int 4), (.int 1)])) _
    refine XS.icmpNo X17.here hx rfl (hb hby d17_11) rfl (tlt (by decide : (1 : Int32) < (4 : Int32))).2.1 ?_
    refine XS.aloadN X17.here hx rfl (hb hby d17_14) rfl rfl ?_
    refine XS.iload X17.here hx rfl (hb hby d17_15) rfl ?_
    refine XS.aloadN X17.here hx rfl (hb hby d17_17) rfl rfl ?_
    refine XS.iloadN X17.here hx rfl (hb hby d17_18) rfl ?_
    exact kt
  have f22 : Arv Z T17.heap a1 kc .char (4 : Int32) [(.int c0), (.int c1), (.int c2), (.int c3)] (.int 0) := (f13.keep K17 (ninS ne7 nin0))
  obtain ⟨cl23, Ar23, -, Sz23, -, Hs23, -⟩ := id f22
  have hin23 : ¬ ((1 : Int32) < 0 ∨ cl23.slots.size ≤ ((1 : Int32)).toNatClampNeg) := inb_of Sz23 ⟨by decide, by decide⟩
  have pre24 : own_Go p e below S0 (T17.setTop (mkF m 20 #[.val (.ref a1), .val (.int 1), .val (.int 4), .val (.ref b3), .val (.int 1)] [(.int c1), (.int 1), (.ref b3)])) := by
    intro t kt
    refine pre21 t ?_
    refine X17.caload hx (j := (1 : Int32)) (v := (.int c1)) Ar23.1 (State.isArrayOf_alike hZ.alike Ar23.2.1) Ar23.2.2 hin23 (Hs23.at hin23 rfl) (g := (mkF m 19 #[.val (.ref a1), .val (.int 1), .val (.int 4), .val (.ref b3), .val (.int 1)] [(.int 1), (.ref a1), (.int 1), (.ref b3)])) rfl rfl (hb hby d17_19) _ ?_
    exact kt
  have f25 : Old Z n0 T17.heap := (f16.keep K17 (allS ge8 all0))
  obtain ⟨_, _, ⟨T26, L26, k26, n26⟩, -, X26, ⟨Lc26, hQ26, l26, y26, z26⟩, st26⟩ := Jvm.LawKit.callS X17 hx (y := own_m20) hown (mvT hZ (hw _ (own_w 87 rfl))) (mvT hZ (hw _ (own_w 88 rfl))) (mvT hZ (hw _ (own_w 40 rfl))) (mvT hZ (hw _ (own_w 89 rfl))) (by decide) (backOf (W := 0) (rmputc_1_8 l Z a0 hw [] b3 c1 kb4 (.int (nar .byte ((c0 >>> ((0 : Int32) &&& 31)).toInt8.toInt32))) (.int (nar .byte ((c0 >>> ((8 : Int32) &&& 31)).toInt8.toInt32))) (.int 0) (.int 0) (.int 0) (.int 0) (.int 0) (.int 0) T17.heap n0 zs19 f25 qU ge8 g18) hZ (hw _ (own_w 89 rfl)) (hw _ (own_w 40 rfl)) (by decide) (by decide)) (g := (mkF m 20 #[.val (.ref a1), .val (.int 1), .val (.int 4), .val (.ref b3), .val (.int 1)] [(.int c1), (.int 1), (.ref b3)])) rfl (by rw [hml]; rfl) (argsL := [(.ref b3), (.int 1), (.int c1)]) (rest := []) (lenOf pd_4 rfl) rfl (by show 2 * 0 + _ ≤ _; exact Nat.le_of_eq rfl) (hb hby d17_20) (fun _ _ => ⟨rfl, rfl, (by decide : 1 + 0 ≤ _), (by decide : 8 + 0 ≤ _)⟩)
  dsimp only [Pt.U, Pt.locs, Pt.cells, Pt.slots] at X26 l26 y26 z26 st26 hQ26
  subst l26 y26 z26
  obtain ⟨rfl, Nq26, K26, g27⟩ := hQ26
  have N26 := Fr.app N17 Nq26
  have zs28 : n0 ≤ T26.heap.size := Nat.le_trans zs19 K26.1
  have kc29 : Keep h0 T26.heap [] := kc20.trans K26 (allS (Or.inr sz9) all0)
  have pre30 : own_Go p e below S0 (T26.setTop (mkF m 19 #[.val (.ref a1), .val (.int 2), .val (.int 4), .val (.ref b3), .val (.int 2)] [(.int 2), (.ref a1), (.int 2), (.ref b3)])) := by
    intro t kt
    refine pre24 t ?_
    refine st26 _ ?_
    show Steps p.tables e below (T26.setTop (mkF m 23 #[.val (.ref a1), .val (.int 1), .val (.int 4), .val (.ref b3), .val (.int 1)] [])) _
    refine XS.iinc X26.here hx rfl (hb hby d17_23) rfl (l' := #[.val (.ref a1), .val (.int 2), .val (.int 4), .val (.ref b3), .val (.int 1)]) rfl ?_
    refine XS.iinc X26.here hx rfl (hb hby d17_26) rfl (l' := #[.val (.ref a1), .val (.int 2), .val (.int 4), .val (.ref b3), .val (.int 2)]) rfl ?_
    refine XS.goto X26.here hx rfl (pc0 := 29) (pc' := 8) rfl (hb hby d17_29) (by decide) (by decide) ?_
    refine XS.iload X26.here hx rfl (hb hby d17_8) rfl ?_
    refine XS.iloadN X26.here hx rfl (hb hby d17_10) rfl ?_
    show Steps p.tables e below (T26.setTop (mkF m 11 #[.val (.ref a1), .val (.int 2), .val (.int 4), .val (.ref b3), .val (.int 2)] [(.int 4), (.int 2)])) _
    refine XS.icmpNo X26.here hx rfl (hb hby d17_11) rfl (tlt (by decide : (2 : Int32) < (4 : Int32))).2.1 ?_
    refine XS.aloadN X26.here hx rfl (hb hby d17_14) rfl rfl ?_
    refine XS.iload X26.here hx rfl (hb hby d17_15) rfl ?_
    refine XS.aloadN X26.here hx rfl (hb hby d17_17) rfl rfl ?_
    refine XS.iloadN X26.here hx rfl (hb hby d17_18) rfl ?_
    exact kt
  have f31 : Arv Z T26.heap a1 kc .char (4 : Int32) [(.int c0), (.int c1), (.int c2), (.int c3)] (.int 0) := (f22.keep K26 (ninS ne7 nin0))
  obtain ⟨cl32, Ar32, -, Sz32, -, Hs32, -⟩ := id f31
  have hin32 : ¬ ((2 : Int32) < 0 ∨ cl32.slots.size ≤ ((2 : Int32)).toNatClampNeg) := inb_of Sz32 ⟨by decide, by decide⟩
  have pre33 : own_Go p e below S0 (T26.setTop (mkF m 20 #[.val (.ref a1), .val (.int 2), .val (.int 4), .val (.ref b3), .val (.int 2)] [(.int c2), (.int 2), (.ref b3)])) := by
    intro t kt
    refine pre30 t ?_
    refine X26.caload hx (j := (2 : Int32)) (v := (.int c2)) Ar32.1 (State.isArrayOf_alike hZ.alike Ar32.2.1) Ar32.2.2 hin32 (Hs32.at hin32 rfl) (g := (mkF m 19 #[.val (.ref a1), .val (.int 2), .val (.int 4), .val (.ref b3), .val (.int 2)] [(.int 2), (.ref a1), (.int 2), (.ref b3)])) rfl rfl (hb hby d17_19) _ ?_
    exact kt
  have f34 : Old Z n0 T26.heap := (f25.keep K26 (allS ge8 all0))
  obtain ⟨_, _, ⟨T35, L35, k35, n35⟩, -, X35, ⟨Lc35, hQ35, l35, y35, z35⟩, st35⟩ := Jvm.LawKit.callS X26 hx (y := own_m20) hown (mvT hZ (hw _ (own_w 87 rfl))) (mvT hZ (hw _ (own_w 88 rfl))) (mvT hZ (hw _ (own_w 40 rfl))) (mvT hZ (hw _ (own_w 89 rfl))) (by decide) (backOf (W := 0) (rmputc_2_8 l Z a0 hw [] b3 c2 kb4 (.int (nar .byte ((c0 >>> ((0 : Int32) &&& 31)).toInt8.toInt32))) (.int (nar .byte ((c0 >>> ((8 : Int32) &&& 31)).toInt8.toInt32))) (.int (nar .byte ((c1 >>> ((0 : Int32) &&& 31)).toInt8.toInt32))) (.int (nar .byte ((c1 >>> ((8 : Int32) &&& 31)).toInt8.toInt32))) (.int 0) (.int 0) (.int 0) (.int 0) T26.heap n0 zs28 f34 qU ge8 g27) hZ (hw _ (own_w 89 rfl)) (hw _ (own_w 40 rfl)) (by decide) (by decide)) (g := (mkF m 20 #[.val (.ref a1), .val (.int 2), .val (.int 4), .val (.ref b3), .val (.int 2)] [(.int c2), (.int 2), (.ref b3)])) rfl (by rw [hml]; rfl) (argsL := [(.ref b3), (.int 2), (.int c2)]) (rest := []) (lenOf pd_4 rfl) rfl (by show 2 * 0 + _ ≤ _; exact Nat.le_of_eq rfl) (hb hby d17_20) (fun _ _ => ⟨rfl, rfl, (by decide : 1 + 0 ≤ _), (by decide : 8 + 0 ≤ _)⟩)
  dsimp only [Pt.U, Pt.locs, Pt.cells, Pt.slots] at X35 l35 y35 z35 st35 hQ35
  subst l35 y35 z35
  obtain ⟨rfl, Nq35, K35, g36⟩ := hQ35
  have N35 := Fr.app N26 Nq35
  have zs37 : n0 ≤ T35.heap.size := Nat.le_trans zs28 K35.1
  have kc38 : Keep h0 T35.heap [] := kc29.trans K35 (allS (Or.inr sz9) all0)
  have pre39 : own_Go p e below S0 (T35.setTop (mkF m 19 #[.val (.ref a1), .val (.int 3), .val (.int 4), .val (.ref b3), .val (.int 3)] [(.int 3), (.ref a1), (.int 3), (.ref b3)])) := by
    intro t kt
    refine pre33 t ?_
    refine st35 _ ?_
    show Steps p.tables e below (T35.setTop (mkF m 23 #[.val (.ref a1), .val (.int 2), .val (.int 4), .val (.ref b3), .val (.int 2)] [])) _
    refine XS.iinc X35.here hx rfl (hb hby d17_23) rfl (l' := #[.val (.ref a1), .val (.int 3), .val (.int 4), .val (.ref b3), .val (.int 2)]) rfl ?_
    refine XS.iinc X35.here hx rfl (hb hby d17_26) rfl (l' := #[.val (.ref a1), .val (.int 3), .val (.int 4), .val (.ref b3), .val (.int 3)]) rfl ?_
    refine XS.goto X35.here hx rfl (pc0 := 29) (pc' := 8) rfl (hb hby d17_29) (by decide) (by decide) ?_
    refine XS.iload X35.here hx rfl (hb hby d17_8) rfl ?_
    refine XS.iloadN X35.here hx rfl (hb hby d17_10) rfl ?_
    show Steps p.tables e below (T35.setTop (mkF m 11 #[.val (.ref a1), .val (.int 3), .val (.int 4), .val (.ref b3), .val (.int 3)] [(.int 4), (.int 3)])) _
    refine XS.icmpNo X35.here hx rfl (hb hby d17_11) rfl (tlt (by decide : (3 : Int32) < (4 : Int32))).2.1 ?_
    refine XS.aloadN X35.here hx rfl (hb hby d17_14) rfl rfl ?_
    refine XS.iload X35.here hx rfl (hb hby d17_15) rfl ?_
    refine XS.aloadN X35.here hx rfl (hb hby d17_17) rfl rfl ?_
    refine XS.iloadN X35.here hx rfl (hb hby d17_18) rfl ?_
    exact kt
  have f40 : Arv Z T35.heap a1 kc .char (4 : Int32) [(.int c0), (.int c1), (.int c2), (.int c3)] (.int 0) := (f31.keep K35 (ninS ne7 nin0))
  obtain ⟨cl41, Ar41, -, Sz41, -, Hs41, -⟩ := id f40
  have hin41 : ¬ ((3 : Int32) < 0 ∨ cl41.slots.size ≤ ((3 : Int32)).toNatClampNeg) := inb_of Sz41 ⟨by decide, by decide⟩
  have pre42 : own_Go p e below S0 (T35.setTop (mkF m 20 #[.val (.ref a1), .val (.int 3), .val (.int 4), .val (.ref b3), .val (.int 3)] [(.int c3), (.int 3), (.ref b3)])) := by
    intro t kt
    refine pre39 t ?_
    refine X35.caload hx (j := (3 : Int32)) (v := (.int c3)) Ar41.1 (State.isArrayOf_alike hZ.alike Ar41.2.1) Ar41.2.2 hin41 (Hs41.at hin41 rfl) (g := (mkF m 19 #[.val (.ref a1), .val (.int 3), .val (.int 4), .val (.ref b3), .val (.int 3)] [(.int 3), (.ref a1), (.int 3), (.ref b3)])) rfl rfl (hb hby d17_19) _ ?_
    exact kt
  have f43 : Old Z n0 T35.heap := (f34.keep K35 (allS ge8 all0))
  obtain ⟨_, _, ⟨T44, L44, k44, n44⟩, -, X44, ⟨Lc44, hQ44, l44, y44, z44⟩, st44⟩ := Jvm.LawKit.callS X35 hx (y := own_m20) hown (mvT hZ (hw _ (own_w 87 rfl))) (mvT hZ (hw _ (own_w 88 rfl))) (mvT hZ (hw _ (own_w 40 rfl))) (mvT hZ (hw _ (own_w 89 rfl))) (by decide) (backOf (W := 0) (rmputc_3_8 l Z a0 hw [] b3 c3 kb4 (.int (nar .byte ((c0 >>> ((0 : Int32) &&& 31)).toInt8.toInt32))) (.int (nar .byte ((c0 >>> ((8 : Int32) &&& 31)).toInt8.toInt32))) (.int (nar .byte ((c1 >>> ((0 : Int32) &&& 31)).toInt8.toInt32))) (.int (nar .byte ((c1 >>> ((8 : Int32) &&& 31)).toInt8.toInt32))) (.int (nar .byte ((c2 >>> ((0 : Int32) &&& 31)).toInt8.toInt32))) (.int (nar .byte ((c2 >>> ((8 : Int32) &&& 31)).toInt8.toInt32))) (.int 0) (.int 0) T35.heap n0 zs37 f43 qU ge8 g36) hZ (hw _ (own_w 89 rfl)) (hw _ (own_w 40 rfl)) (by decide) (by decide)) (g := (mkF m 20 #[.val (.ref a1), .val (.int 3), .val (.int 4), .val (.ref b3), .val (.int 3)] [(.int c3), (.int 3), (.ref b3)])) rfl (by rw [hml]; rfl) (argsL := [(.ref b3), (.int 3), (.int c3)]) (rest := []) (lenOf pd_4 rfl) rfl (by show 2 * 0 + _ ≤ _; exact Nat.le_of_eq rfl) (hb hby d17_20) (fun _ _ => ⟨rfl, rfl, (by decide : 1 + 0 ≤ _), (by decide : 8 + 0 ≤ _)⟩)
  dsimp only [Pt.U, Pt.locs, Pt.cells, Pt.slots] at X44 l44 y44 z44 st44 hQ44
  subst l44 y44 z44
  obtain ⟨rfl, Nq44, K44, g45⟩ := hQ44
  have N44 := Fr.app N35 Nq44
  have zs46 : n0 ≤ T44.heap.size := Nat.le_trans zs37 K44.1
  have kc47 : Keep h0 T44.heap [] := kc38.trans K44 (allS (Or.inr sz9) all0)
  have pre48 : own_Go p e below S0 (T44.setTop (mkF m 33 #[.val (.ref a1), .val (.int 4), .val (.int 4), .val (.ref b3), .val (.int 4)] [(.ref b3)])) := by
    intro t kt
    refine pre42 t ?_
    refine st44 _ ?_
    show Steps p.tables e below (T44.setTop (mkF m 23 #[.val (.ref a1), .val (.int 3), .val (.int 4), .val (.ref b3), .val (.int 3)] [])) _
    refine XS.iinc X44.here hx rfl (hb hby d17_23) rfl (l' := #[.val (.ref a1), .val (.int 4), .val (.int 4), .val (.ref b3), .val (.int 3)]) rfl ?_
    refine XS.iinc X44.here hx rfl (hb hby d17_26) rfl (l' := #[.val (.ref a1), .val (.int 4), .val (.int 4), .val (.ref b3), .val (.int 4)]) rfl ?_
    refine XS.goto X44.here hx rfl (pc0 := 29) (pc' := 8) rfl (hb hby d17_29) (by decide) (by decide) ?_
    refine XS.iload X44.here hx rfl (hb hby d17_8) rfl ?_
    refine XS.iloadN X44.here hx rfl (hb hby d17_10) rfl ?_
    show Steps p.tables e below (T44.setTop (mkF m 11 #[.val (.ref a1), .val (.int 4), .val (.int 4), .val (.ref b3), .val (.int 4)] [(.int 4), (.int 4)])) _
    refine XS.icmpYes X44.here hx rfl (pc0 := 11) (pc' := 32) rfl (hb hby d17_11) rfl (flt (by decide : ¬ ((4 : Int32) < (4 : Int32)))).2.1 (by decide) (by decide) ?_
    refine XS.aloadN X44.here hx rfl (hb hby d17_32) rfl rfl ?_
    exact kt
  obtain ⟨fs, hr, hrun, hended, hW, hsame⟩ := X44.leave (v := some (.ref b3)) (fun h => by rw [Bd.returns] at h; cases h)
  refine ⟨_, _, fin _ (pre48 _ ?_), hrun, hended, _, _, rfl, ?_, ⟨_, rfl⟩, hW, hsame.mono (by decide) (by decide)⟩
  · jvm_step X44.here [X44.here.top, hx, (hb hby d17_33), X44.method', Bd.returns, Value.isRef, FieldType.isReference]
    first | (intro acts; rw [hr _ acts rfl rfl rfl]) | rw [hr _ _ rfl rfl rfl]
    exact Steps.refl _
  · show QtoB_4 Z a1 kc c0 c1 c2 c3 h0 n0 _ T44.heap _
    exact ⟨b3, kb4, rfl, N44, kc47, sz9, g45⟩

theorem ef_cmp3_4 (m : MethodId) (x0 : Addr) : entryFrame m #[(.ref x0), (.int 0), (.int 4)] 6 = mkF m 0 #[.val (.ref x0), .val (.int 0), .val (.int 4), .unset, .unset, .unset] [] := by first | (simp [entryFrame, mkF, argsToLocals, Value.category]; done) | rfl
def Qcmp3_4 (Z : State) (a1 : Addr) (kc : ClassId) (c0 : Int32) (c1 : Int32) (c2 : Int32) (c3 : Int32) (h0 : Heap) (n0 : Nat) (v : Option Value) (h : Heap) (L : List Loc) : Prop := ∃ b : Addr, ∃ kb : ClassId, v = (some (.ref b)) ∧ Fr n0 L ∧ Keep h0 h [] ∧ h0.size ≤ b ∧ ((own_Lat [c0, c1, c2, c3] ∧ Arv Z h b kb .byte (4 : Int32) [(.int (nar .byte (c0.toInt8.toInt32))), (.int (nar .byte (c1.toInt8.toInt32))), (.int (nar .byte (c2.toInt8.toInt32))), (.int (nar .byte (c3.toInt8.toInt32)))] (.int 0)) ∨ (own_Chr [c0, c1, c2, c3] ∧ Arv Z h b kb .byte (8 : Int32) [(.int (nar .byte ((c0 >>> ((0 : Int32) &&& 31)).toInt8.toInt32))), (.int (nar .byte ((c0 >>> ((8 : Int32) &&& 31)).toInt8.toInt32))), (.int (nar .byte ((c1 >>> ((0 : Int32) &&& 31)).toInt8.toInt32))), (.int (nar .byte ((c1 >>> ((8 : Int32) &&& 31)).toInt8.toInt32))), (.int (nar .byte ((c2 >>> ((0 : Int32) &&& 31)).toInt8.toInt32))), (.int (nar .byte ((c2 >>> ((8 : Int32) &&& 31)).toInt8.toInt32))), (.int (nar .byte ((c3 >>> ((0 : Int32) &&& 31)).toInt8.toInt32))), (.int (nar .byte ((c3 >>> ((8 : Int32) &&& 31)).toInt8.toInt32)))] (.int 0)))
set_option maxRecDepth 65536 in
set_option maxHeartbeats 40000000 in
theorem rmcmp3_4 (l : Launch) (Z : State) (a0 : Array Value) (hw : ∀ d ∈ tables_1, d.before a0 Z = true) (ws : List Jvm.Cond) (a1 : Addr) (kc : ClassId) (c0 : Int32) (c1 : Int32) (c2 : Int32) (c3 : Int32) (h0 : Heap) (n0 : Nat) (Z0 : n0 ≤ h0.size) (O0 : Old Z n0 h0) (qU : (own_SU Z)) (VC : Arv Z h0 a1 kc .char (4 : Int32) [(.int c0), (.int c1), (.int c2), (.int c3)] (.int 0)) :
    MetFree l own_m14 (head1 (Jvm.Cond.code own_m14 jdk_52_method_16_code 6 (some (.array .byte)) :: ws) (own_r 3 2 12 40)) (fun a U => a = #[(.ref a1), (.int 0), (.int 4)] ∧ Z.Warmed39 U.vm ∧ U.heap = h0) (fun _ _ _ _ _ => True) (fun _ U o U' => ∃ v L, o = .returned v ∧ Qcmp3_4 Z a1 kc c0 c1 c2 c3 h0 n0 v U'.heap L ∧ FrameEnd U o U' L (own_r 3 2 12 40).cells (own_r 3 2 12 40).slots) := by
  refine MetFree.of_bodySF (plainFor_of_name pn_7) hisR ?_
  intro p e s m args below meth c s₁ Bd hml0 hP hK
  obtain ⟨rfl, hZ, hh⟩ := hP
  have hx := Bd.exec
  have hby := Bd.bytes
  have hml : c.maxLocals = 6 := hml0
  have hown0 := findClass_of_methodNamed Bd.named
  have hown : s.vm.findClass "java/lang/StringUTF16" = some m.cls := hown0
  have hnm := (name_of_methodNamed Bd.named Bd.method).1
  have X0 : Stand p l e (own_r 3 2 12 40) s m #[(.ref a1), (.int 0), (.int 4)] below meth c s₁ [] 0 0 := Stand.of_body Bd
  have e0 : s₁.heap = h0 := by rw [← hh, Bd.state]; rfl
  have N0 := Fr.nil n0
  obtain ⟨S0, hS0⟩ : ∃ z, z = s₁.setTop (entryFrame m #[(.ref a1), (.int 0), (.int 4)] 6) := ⟨_, rfl⟩
  have pre0 : own_Go p e below S0 (s₁.setTop (mkF m 0 #[.val (.ref a1), .val (.int 0), .val (.int 4), .unset, .unset, .unset] [])) := fun t k => by rw [hS0]; exact castTop (ef_cmp3_4 m a1) k
  have fin : ∀ t, Steps p.tables e below S0 t → Steps p.tables e below (s₁.setTop (entryFrame m #[(.ref a1), (.int 0), (.int 4)] 6)) t := fun t k => by rw [hS0] at k; exact k
  have kc0 : Keep h0 h0 [] := Keep.refl _ _
  have pre1 : own_Go p e below S0 (s₁.setTop (mkF m 1 #[.val (.ref a1), .val (.int 0), .val (.int 4), .unset, .unset, .unset] [(.int 4)])) := by
    intro t kt
    refine pre0 t ?_
    refine XS.iloadN X0.here hx rfl (hb hby d7_0) rfl ?_
    exact kt
  obtain ⟨T2, h2, k2, X2, e2, E2, A2, st2⟩ := newP X0 hx hZ (hw _ (own_w 16 rfl)) e0 (g := (mkF m 1 #[.val (.ref a1), .val (.int 0), .val (.int 4), .unset, .unset, .unset] [(.int 4)])) rfl (hb hby d7_1) rfl (by decide) (cap := 4) (by decide) (by decide) (by decide) (by decide)
  obtain ⟨b2, g2⟩ : ∃ z, z = h0.size := ⟨_, rfl⟩
  rw [← g2] at A2 st2
  have ne3 : a1 ≠ b2 := Nat.ne_of_lt (Nat.lt_of_lt_of_le VC.lt (Nat.le_of_eq g2.symm))
  have ge4 : n0 ≤ b2 := Nat.le_trans Z0 (Nat.le_of_eq g2.symm)
  have sz5 : h0.size ≤ b2 := Nat.le_trans kc0.1 (Nat.le_of_eq g2.symm)
  have zs6 : n0 ≤ h2.size := Nat.le_trans Z0 E2.1
  have kc7 : Keep h0 h2 [] := kc0.ext E2
  have V2 : Arv Z h2 b2 k2 .byte (4 : Int32) [(.int 0), (.int 0), (.int 0), (.int 0)] (.int 0) := (Arv.new A2 (by decide)).pad (pad_rep [] (.int 0) 4)
  have pre8 : own_Go p e below S0 (T2.setTop (mkF m 9 #[.val (.ref a1), .val (.int 0), .val (.int 4), .val (.ref b2), .unset, .unset] [(.int 4), (.int 0), (.ref b2), (.int 0), (.ref a1)])) := by
    intro t kt
    refine pre1 t ?_
    refine st2 _ ?_
    refine XS.astoreN X2.here hx rfl (hb hby d7_3) rfl rfl (l' := #[.val (.ref a1), .val (.int 0), .val (.int 4), .val (.ref b2), .unset, .unset]) rfl ?_
    refine XS.aloadN X2.here hx rfl (hb hby d7_4) rfl rfl ?_
    refine XS.iloadN X2.here hx rfl (hb hby d7_5) rfl ?_
    refine XS.aloadN X2.here hx rfl (hb hby d7_6) rfl rfl ?_
    refine XS.iconst X2.here hx rfl (hb hby d7_7) ?_
    show Steps p.tables e below (T2.setTop (mkF m 8 #[.val (.ref a1), .val (.int 0), .val (.int 4), .val (.ref b2), .unset, .unset] [(.int 0), (.ref b2), (.int 0), (.ref a1)])) _
    refine XS.iloadN X2.here hx rfl (hb hby d7_8) rfl ?_
    exact kt
  have f9 : Arv Z h2 a1 kc .char (4 : Int32) [(.int c0), (.int c1), (.int c2), (.int c3)] (.int 0) := (VC.ext E2)
  obtain ⟨_, _, ⟨T10, L10, k10, n10⟩, -, X10, ⟨Lc10, hQ10, l10, y10, z10⟩, st10⟩ := Jvm.LawKit.callS X2 hx (y := own_m15) hown (mvT hZ (hw _ (own_w 42 rfl))) (mvT hZ (hw _ (own_w 43 rfl))) (mvT hZ (hw _ (own_w 40 rfl))) (mvT hZ (hw _ (own_w 44 rfl))) (by decide) (backOf (W := 0) (rmcmp5_4 l Z a0 hw [] a1 b2 kc k2 c0 c1 c2 c3 h2 n0 zs6 f9 ge4 V2 ne3) hZ (hw _ (own_w 44 rfl)) (hw _ (own_w 40 rfl)) (by decide) (by decide)) (g := (mkF m 9 #[.val (.ref a1), .val (.int 0), .val (.int 4), .val (.ref b2), .unset, .unset] [(.int 4), (.int 0), (.ref b2), (.int 0), (.ref a1)])) rfl (by rw [hml]; rfl) (argsL := [(.ref a1), (.int 0), (.ref b2), (.int 0), (.int 4)]) (rest := []) (lenOf pd_5 rfl) rfl (by show 2 * 0 + _ ≤ _; exact Nat.le_of_eq rfl) (hb hby d7_9) (fun _ _ => ⟨rfl, e2, (by decide : 1 + 0 ≤ _), (by decide : 4 + 0 ≤ _)⟩)
  dsimp only [Pt.U, Pt.locs, Pt.cells, Pt.slots] at X10 l10 y10 z10 st10 hQ10
  subst l10 y10 z10
  obtain ⟨r11, rfl, Nq10, K10, g12⟩ := hQ10
  have N10 := Fr.app N0 Nq10
  have zs13 : n0 ≤ T10.heap.size := Nat.le_trans zs6 K10.1
  have kc14 : Keep h0 T10.heap [] := kc7.trans K10 (allS (Or.inr sz5) all0)
  have pre15 : own_Go p e below S0 (T10.setTop (mkF m 12 #[.val (.ref a1), .val (.int 0), .val (.int 4), .val (.ref b2), .unset, .unset] [(.int r11)])) := by
    intro t kt
    refine pre8 t ?_
    refine st10 _ ?_
    show Steps p.tables e below (T10.setTop (mkF m 12 #[.val (.ref a1), .val (.int 0), .val (.int 4), .val (.ref b2), .unset, .unset] [(.int r11)])) _
    exact kt
  obtain ⟨hr, hl, hv⟩ | ⟨hr, hg⟩ | ⟨hr, hg⟩ | ⟨hr, hg⟩ | ⟨hr, hg⟩ := g12
  · have pre16 : own_Go p e below S0 (T10.setTop (mkF m 12 #[.val (.ref a1), .val (.int 0), .val (.int 4), .val (.ref b2), .unset, .unset] [(.int 4)])) := by
      intro t kt
      refine pre15 t ?_
      rw [hr]
      exact kt
    have pre17 : own_Go p e below S0 (T10.setTop (mkF m 58 #[.val (.ref a1), .val (.int 0), .val (.int 4), .val (.ref b2), .val (.int 4), .unset] [(.ref b2)])) := by
      intro t kt
      refine pre16 t ?_
      refine XS.istore X10.here hx rfl (hb hby d7_12) rfl (l' := #[.val (.ref a1), .val (.int 0), .val (.int 4), .val (.ref b2), .val (.int 4), .unset]) rfl ?_
      refine XS.iload X10.here hx rfl (hb hby d7_14) rfl ?_
      refine XS.iloadN X10.here hx rfl (hb hby d7_16) rfl ?_
      refine XS.icmpYes X10.here hx rfl (pc0 := 17) (pc' := 57) rfl (hb hby d7_17) rfl (teq (by decide : (4 : Int32) = (4 : Int32))).1 (by decide) (by decide) ?_
      refine XS.aloadN X10.here hx rfl (hb hby d7_57) rfl rfl ?_
      exact kt
    obtain ⟨fs, hr, hrun, hended, hW, hsame⟩ := X10.leave (v := some (.ref b2)) (fun h => by rw [Bd.returns] at h; cases h)
    refine ⟨_, _, fin _ (pre17 _ ?_), hrun, hended, _, _, rfl, ?_, ⟨_, rfl⟩, hW, hsame.mono (by decide) (by decide)⟩
    · jvm_step X10.here [X10.here.top, hx, (hb hby d7_58), X10.method', Bd.returns, Value.isRef, FieldType.isReference]
      first | (intro acts; rw [hr _ acts rfl rfl rfl]) | rw [hr _ _ rfl rfl rfl]
      exact Steps.refl _
    · show Qcmp3_4 Z a1 kc c0 c1 c2 c3 h0 n0 _ T10.heap _
      exact ⟨b2, k2, rfl, N10, kc14, sz5, (Or.inl ⟨hl, hv⟩)⟩
  · have pre18 : own_Go p e below S0 (T10.setTop (mkF m 12 #[.val (.ref a1), .val (.int 0), .val (.int 4), .val (.ref b2), .unset, .unset] [(.int 0)])) := by
      intro t kt
      refine pre15 t ?_
      rw [hr]
      exact kt
    have pre19 : own_Go p e below S0 (T10.setTop (mkF m 23 #[.val (.ref a1), .val (.int 0), .val (.int 4), .val (.ref b2), .val (.int 0), .unset] [(.int 4), (.int 0), (.ref a1)])) := by
      intro t kt
      refine pre18 t ?_
      refine XS.istore X10.here hx rfl (hb hby d7_12) rfl (l' := #[.val (.ref a1), .val (.int 0), .val (.int 4), .val (.ref b2), .val (.int 0), .unset]) rfl ?_
      refine XS.iload X10.here hx rfl (hb hby d7_14) rfl ?_
      refine XS.iloadN X10.here hx rfl (hb hby d7_16) rfl ?_
      refine XS.icmpNo X10.here hx rfl (hb hby d7_17) rfl (feq (by decide : ¬ ((0 : Int32) = (4 : Int32)))).1 ?_
      refine XS.aloadN X10.here hx rfl (hb hby d7_20) rfl rfl ?_
      refine XS.iloadN X10.here hx rfl (hb hby d7_21) rfl ?_
      show Steps p.tables e below (T10.setTop (mkF m 22 #[.val (.ref a1), .val (.int 0), .val (.int 4), .val (.ref b2), .val (.int 0), .unset] [(.int 0), (.ref a1)])) _
      refine XS.iloadN X10.here hx rfl (hb hby d7_22) rfl ?_
      exact kt
    have f20 : Old Z n0 T10.heap := ((O0.ext E2).keep K10 (allS ge4 all0))
    have f21 : Arv Z T10.heap a1 kc .char (4 : Int32) [(.int c0), (.int c1), (.int c2), (.int c3)] (.int 0) := (f9.keep K10 (ninS ne3 nin0))
    obtain ⟨_, _, ⟨T22, L22, k22, n22⟩, -, X22, ⟨Lc22, hQ22, l22, y22, z22⟩, st22⟩ := Jvm.LawKit.callS X10 hx (y := own_m21) hown (mvT hZ (hw _ (own_w 77 rfl))) (mvT hZ (hw _ (own_w 78 rfl))) (mvT hZ (hw _ (own_w 40 rfl))) (mvT hZ (hw _ (own_w 79 rfl))) (by decide) (backOf (W := 0) (rmtoB_4 l Z a0 hw [] a1 kc c0 c1 c2 c3 T10.heap n0 zs13 f20 qU f21) hZ (hw _ (own_w 79 rfl)) (hw _ (own_w 40 rfl)) (by decide) (by decide)) (g := (mkF m 23 #[.val (.ref a1), .val (.int 0), .val (.int 4), .val (.ref b2), .val (.int 0), .unset] [(.int 4), (.int 0), (.ref a1)])) rfl (by rw [hml]; rfl) (argsL := [(.ref a1), (.int 0), (.int 4)]) (rest := []) (lenOf pd_6 rfl) rfl (by show 2 * 0 + _ ≤ _; exact Nat.le_of_eq rfl) (hb hby d7_23) (fun _ _ => ⟨rfl, rfl, (by decide : 1 + 1 ≤ _), (by decide : 4 + 8 ≤ _)⟩)
    dsimp only [Pt.U, Pt.locs, Pt.cells, Pt.slots] at X22 l22 y22 z22 st22 hQ22
    subst l22 y22 z22
    obtain ⟨b23, kb24, rfl, Nq22, K22, g25, g26⟩ := hQ22
    have N22 := Fr.app N10 Nq22
    have ne27 : a1 ≠ b23 := Nat.ne_of_lt (Nat.lt_of_lt_of_le f21.lt g25)
    have ge28 : n0 ≤ b23 := Nat.le_trans zs13 g25
    have sz29 : h0.size ≤ b23 := Nat.le_trans kc14.1 g25
    have zs30 : n0 ≤ T22.heap.size := Nat.le_trans zs13 K22.1
    have kc31 : Keep h0 T22.heap [] := kc14.trans K22 all0
    have pre32 : own_Go p e below S0 (T22.setTop (mkF m 32 #[.val (.ref a1), .val (.int 0), .val (.int 4), .val (.ref b2), .val (.int 0), .val (.ref b23)] [(.int 0), (.ref b23)])) := by
      intro t kt
      refine pre19 t ?_
      refine st22 _ ?_
      show Steps p.tables e below (T22.setTop (mkF m 26 #[.val (.ref a1), .val (.int 0), .val (.int 4), .val (.ref b2), .val (.int 0), .unset] [(.ref b23)])) _
      refine XS.astore X22.here hx rfl (hb hby d7_26) rfl rfl (l' := #[.val (.ref a1), .val (.int 0), .val (.int 4), .val (.ref b2), .val (.int 0), .val (.ref b23)]) rfl ?_
      refine XS.aload X22.here hx rfl (hb hby d7_28) rfl rfl ?_
      refine XS.iload X22.here hx rfl (hb hby d7_30) rfl ?_
      exact kt
    have f33 : Old Z n0 T22.heap := (f20.keep K22 all0)
    obtain ⟨_, _, ⟨T34, L34, k34, n34⟩, -, X34, ⟨Lc34, hQ34, l34, y34, z34⟩, st34⟩ := Jvm.LawKit.callS X22 hx (y := own_m16) hown (mvT hZ (hw _ (own_w 93 rfl))) (mvT hZ (hw _ (own_w 94 rfl))) (mvT hZ (hw _ (own_w 40 rfl))) (mvT hZ (hw _ (own_w 95 rfl))) (by decide) (backOf (W := 0) (rmgetc l Z a0 hw [] b23 (0 : Int32) kb24 (8 : Int32) [(.int (nar .byte ((c0 >>> ((0 : Int32) &&& 31)).toInt8.toInt32))), (.int (nar .byte ((c0 >>> ((8 : Int32) &&& 31)).toInt8.toInt32))), (.int (nar .byte ((c1 >>> ((0 : Int32) &&& 31)).toInt8.toInt32))), (.int (nar .byte ((c1 >>> ((8 : Int32) &&& 31)).toInt8.toInt32))), (.int (nar .byte ((c2 >>> ((0 : Int32) &&& 31)).toInt8.toInt32))), (.int (nar .byte ((c2 >>> ((8 : Int32) &&& 31)).toInt8.toInt32))), (.int (nar .byte ((c3 >>> ((0 : Int32) &&& 31)).toInt8.toInt32))), (.int (nar .byte ((c3 >>> ((8 : Int32) &&& 31)).toInt8.toInt32)))] (.int 0) (nar .byte ((c0 >>> ((0 : Int32) &&& 31)).toInt8.toInt32)) (nar .byte ((c0 >>> ((8 : Int32) &&& 31)).toInt8.toInt32)) 0 1 T22.heap n0 zs30 f33 qU g26 (by decide +kernel) (by decide +kernel) (by decide +kernel) rfl (by decide +kernel) (by decide +kernel) (by decide +kernel) rfl) hZ (hw _ (own_w 95 rfl)) (hw _ (own_w 40 rfl)) (by decide) (by decide)) (g := (mkF m 32 #[.val (.ref a1), .val (.int 0), .val (.int 4), .val (.ref b2), .val (.int 0), .val (.ref b23)] [(.int 0), (.ref b23)])) rfl (by rw [hml]; rfl) (argsL := [(.ref b23), (.int 0)]) (rest := []) (lenOf pd_7 rfl) rfl (by show 2 * 0 + _ ≤ _; exact Nat.le_of_eq rfl) (hb hby d7_32) (fun _ _ => ⟨rfl, rfl, (by decide : 2 + 0 ≤ _), (by decide : 12 + 0 ≤ _)⟩)
    dsimp only [Pt.U, Pt.locs, Pt.cells, Pt.slots] at X34 l34 y34 z34 st34 hQ34
    subst l34 y34 z34
    obtain ⟨rfl, Nq34, eq34⟩ := hQ34
    have N34 := Fr.app N22 Nq34
    have pre35 : own_Go p e below S0 (T34.setTop (mkF m 35 #[.val (.ref a1), .val (.int 0), .val (.int 4), .val (.ref b2), .val (.int 0), .val (.ref b23)] [(.int (own_gc (nar .byte ((c0 >>> ((0 : Int32) &&& 31)).toInt8.toInt32)) (nar .byte ((c0 >>> ((8 : Int32) &&& 31)).toInt8.toInt32))))])) := by
      intro t kt
      refine pre32 t ?_
      refine st34 _ ?_
      show Steps p.tables e below (T34.setTop (mkF m 35 #[.val (.ref a1), .val (.int 0), .val (.int 4), .val (.ref b2), .val (.int 0), .val (.ref b23)] [(.int (own_gc (nar .byte ((c0 >>> ((0 : Int32) &&& 31)).toInt8.toInt32)) (nar .byte ((c0 >>> ((8 : Int32) &&& 31)).toInt8.toInt32))))])) _
      exact kt
    have pre36 : own_Go p e below S0 (T34.setTop (mkF m 35 #[.val (.ref a1), .val (.int 0), .val (.int 4), .val (.ref b2), .val (.int 0), .val (.ref b23)] [(.int c0)])) := by
      intro t kt
      refine pre35 t ?_
      rw [own_utfget c0 (own_fitAt VC 0 (by decide) rfl)]
      exact kt
    have pre37 : own_Go p e below S0 (T34.setTop (mkF m 56 #[.val (.ref a1), .val (.int 0), .val (.int 4), .val (.ref b2), .val (.int 0), .val (.ref b23)] [(.ref b23)])) := by
      intro t kt
      refine pre36 t ?_
      refine XS.sipush X34.here hx rfl (hb hby d7_35) ?_
      refine XS.icmpYes X34.here hx rfl (pc0 := 38) (pc' := 54) rfl (hb hby d7_38) rfl (tlt hg).2.2.1 (by decide) (by decide) ?_
      refine XS.aload X34.here hx rfl (hb hby d7_54) rfl rfl ?_
      exact kt
    obtain ⟨fs, hr, hrun, hended, hW, hsame⟩ := X34.leave (v := some (.ref b23)) (fun h => by rw [Bd.returns] at h; cases h)
    refine ⟨_, _, fin _ (pre37 _ ?_), hrun, hended, _, _, rfl, ?_, ⟨_, rfl⟩, hW, hsame.mono (by decide) (by decide)⟩
    · jvm_step X34.here [X34.here.top, hx, (hb hby d7_56), X34.method', Bd.returns, Value.isRef, FieldType.isReference]
      first | (intro acts; rw [hr _ acts rfl rfl rfl]) | rw [hr _ _ rfl rfl rfl]
      exact Steps.refl _
    · show Qcmp3_4 Z a1 kc c0 c1 c2 c3 h0 n0 _ T34.heap _
      rw [eq34]
      exact ⟨b23, kb24, rfl, N34, kc31, sz29, (Or.inr ⟨⟨own_fitAt VC 0 (by decide) rfl, ⟨own_fitAt VC 1 (by decide) rfl, ⟨own_fitAt VC 2 (by decide) rfl, ⟨own_fitAt VC 3 (by decide) rfl, trivial⟩⟩⟩⟩, g26⟩)⟩
  · have pre38 : own_Go p e below S0 (T10.setTop (mkF m 12 #[.val (.ref a1), .val (.int 0), .val (.int 4), .val (.ref b2), .unset, .unset] [(.int 1)])) := by
      intro t kt
      refine pre15 t ?_
      rw [hr]
      exact kt
    have pre39 : own_Go p e below S0 (T10.setTop (mkF m 23 #[.val (.ref a1), .val (.int 0), .val (.int 4), .val (.ref b2), .val (.int 1), .unset] [(.int 4), (.int 0), (.ref a1)])) := by
      intro t kt
      refine pre38 t ?_
      refine XS.istore X10.here hx rfl (hb hby d7_12) rfl (l' := #[.val (.ref a1), .val (.int 0), .val (.int 4), .val (.ref b2), .val (.int 1), .unset]) rfl ?_
      refine XS.iload X10.here hx rfl (hb hby d7_14) rfl ?_
      refine XS.iloadN X10.here hx rfl (hb hby d7_16) rfl ?_
      refine XS.icmpNo X10.here hx rfl (hb hby d7_17) rfl (feq (by decide : ¬ ((1 : Int32) = (4 : Int32)))).1 ?_
      refine XS.aloadN X10.here hx rfl (hb hby d7_20) rfl rfl ?_
      refine XS.iloadN X10.here hx rfl (hb hby d7_21) rfl ?_
      show Steps p.tables e below (T10.setTop (mkF m 22 #[.val (.ref a1), .val (.int 0), .val (.int 4), .val (.ref b2), .val (.int 1), .unset] [(.int 0), (.ref a1)])) _
      refine XS.iloadN X10.here hx rfl (hb hby d7_22) rfl ?_
      exact kt
    have f40 : Old Z n0 T10.heap := ((O0.ext E2).keep K10 (allS ge4 all0))
    have f41 : Arv Z T10.heap a1 kc .char (4 : Int32) [(.int c0), (.int c1), (.int c2), (.int c3)] (.int 0) := (f9.keep K10 (ninS ne3 nin0))
    obtain ⟨_, _, ⟨T42, L42, k42, n42⟩, -, X42, ⟨Lc42, hQ42, l42, y42, z42⟩, st42⟩ := Jvm.LawKit.callS X10 hx (y := own_m21) hown (mvT hZ (hw _ (own_w 77 rfl))) (mvT hZ (hw _ (own_w 78 rfl))) (mvT hZ (hw _ (own_w 40 rfl))) (mvT hZ (hw _ (own_w 79 rfl))) (by decide) (backOf (W := 0) (rmtoB_4 l Z a0 hw [] a1 kc c0 c1 c2 c3 T10.heap n0 zs13 f40 qU f41) hZ (hw _ (own_w 79 rfl)) (hw _ (own_w 40 rfl)) (by decide) (by decide)) (g := (mkF m 23 #[.val (.ref a1), .val (.int 0), .val (.int 4), .val (.ref b2), .val (.int 1), .unset] [(.int 4), (.int 0), (.ref a1)])) rfl (by rw [hml]; rfl) (argsL := [(.ref a1), (.int 0), (.int 4)]) (rest := []) (lenOf pd_6 rfl) rfl (by show 2 * 0 + _ ≤ _; exact Nat.le_of_eq rfl) (hb hby d7_23) (fun _ _ => ⟨rfl, rfl, (by decide : 1 + 1 ≤ _), (by decide : 4 + 8 ≤ _)⟩)
    dsimp only [Pt.U, Pt.locs, Pt.cells, Pt.slots] at X42 l42 y42 z42 st42 hQ42
    subst l42 y42 z42
    obtain ⟨b43, kb44, rfl, Nq42, K42, g45, g46⟩ := hQ42
    have N42 := Fr.app N10 Nq42
    have ne47 : a1 ≠ b43 := Nat.ne_of_lt (Nat.lt_of_lt_of_le f41.lt g45)
    have ge48 : n0 ≤ b43 := Nat.le_trans zs13 g45
    have sz49 : h0.size ≤ b43 := Nat.le_trans kc14.1 g45
    have zs50 : n0 ≤ T42.heap.size := Nat.le_trans zs13 K42.1
    have kc51 : Keep h0 T42.heap [] := kc14.trans K42 all0
    have pre52 : own_Go p e below S0 (T42.setTop (mkF m 32 #[.val (.ref a1), .val (.int 0), .val (.int 4), .val (.ref b2), .val (.int 1), .val (.ref b43)] [(.int 1), (.ref b43)])) := by
      intro t kt
      refine pre39 t ?_
      refine st42 _ ?_
      show Steps p.tables e below (T42.setTop (mkF m 26 #[.val (.ref a1), .val (.int 0), .val (.int 4), .val (.ref b2), .val (.int 1), .unset] [(.ref b43)])) _
      refine XS.astore X42.here hx rfl (hb hby d7_26) rfl rfl (l' := #[.val (.ref a1), .val (.int 0), .val (.int 4), .val (.ref b2), .val (.int 1), .val (.ref b43)]) rfl ?_
      refine XS.aload X42.here hx rfl (hb hby d7_28) rfl rfl ?_
      refine XS.iload X42.here hx rfl (hb hby d7_30) rfl ?_
      exact kt
    have f53 : Old Z n0 T42.heap := (f40.keep K42 all0)
    obtain ⟨_, _, ⟨T54, L54, k54, n54⟩, -, X54, ⟨Lc54, hQ54, l54, y54, z54⟩, st54⟩ := Jvm.LawKit.callS X42 hx (y := own_m16) hown (mvT hZ (hw _ (own_w 93 rfl))) (mvT hZ (hw _ (own_w 94 rfl))) (mvT hZ (hw _ (own_w 40 rfl))) (mvT hZ (hw _ (own_w 95 rfl))) (by decide) (backOf (W := 0) (rmgetc l Z a0 hw [] b43 (1 : Int32) kb44 (8 : Int32) [(.int (nar .byte ((c0 >>> ((0 : Int32) &&& 31)).toInt8.toInt32))), (.int (nar .byte ((c0 >>> ((8 : Int32) &&& 31)).toInt8.toInt32))), (.int (nar .byte ((c1 >>> ((0 : Int32) &&& 31)).toInt8.toInt32))), (.int (nar .byte ((c1 >>> ((8 : Int32) &&& 31)).toInt8.toInt32))), (.int (nar .byte ((c2 >>> ((0 : Int32) &&& 31)).toInt8.toInt32))), (.int (nar .byte ((c2 >>> ((8 : Int32) &&& 31)).toInt8.toInt32))), (.int (nar .byte ((c3 >>> ((0 : Int32) &&& 31)).toInt8.toInt32))), (.int (nar .byte ((c3 >>> ((8 : Int32) &&& 31)).toInt8.toInt32)))] (.int 0) (nar .byte ((c1 >>> ((0 : Int32) &&& 31)).toInt8.toInt32)) (nar .byte ((c1 >>> ((8 : Int32) &&& 31)).toInt8.toInt32)) 2 3 T42.heap n0 zs50 f53 qU g46 (by decide +kernel) (by decide +kernel) (by decide +kernel) rfl (by decide +kernel) (by decide +kernel) (by decide +kernel) rfl) hZ (hw _ (own_w 95 rfl)) (hw _ (own_w 40 rfl)) (by decide) (by decide)) (g := (mkF m 32 #[.val (.ref a1), .val (.int 0), .val (.int 4), .val (.ref b2), .val (.int 1), .val (.ref b43)] [(.int 1), (.ref b43)])) rfl (by rw [hml]; rfl) (argsL := [(.ref b43), (.int 1)]) (rest := []) (lenOf pd_7 rfl) rfl (by show 2 * 0 + _ ≤ _; exact Nat.le_of_eq rfl) (hb hby d7_32) (fun _ _ => ⟨rfl, rfl, (by decide : 2 + 0 ≤ _), (by decide : 12 + 0 ≤ _)⟩)
    dsimp only [Pt.U, Pt.locs, Pt.cells, Pt.slots] at X54 l54 y54 z54 st54 hQ54
    subst l54 y54 z54
    obtain ⟨rfl, Nq54, eq54⟩ := hQ54
    have N54 := Fr.app N42 Nq54
    have pre55 : own_Go p e below S0 (T54.setTop (mkF m 35 #[.val (.ref a1), .val (.int 0), .val (.int 4), .val (.ref b2), .val (.int 1), .val (.ref b43)] [(.int (own_gc (nar .byte ((c1 >>> ((0 : Int32) &&& 31)).toInt8.toInt32)) (nar .byte ((c1 >>> ((8 : Int32) &&& 31)).toInt8.toInt32))))])) := by
      intro t kt
      refine pre52 t ?_
      refine st54 _ ?_
      show Steps p.tables e below (T54.setTop (mkF m 35 #[.val (.ref a1), .val (.int 0), .val (.int 4), .val (.ref b2), .val (.int 1), .val (.ref b43)] [(.int (own_gc (nar .byte ((c1 >>> ((0 : Int32) &&& 31)).toInt8.toInt32)) (nar .byte ((c1 >>> ((8 : Int32) &&& 31)).toInt8.toInt32))))])) _
      exact kt
    have pre56 : own_Go p e below S0 (T54.setTop (mkF m 35 #[.val (.ref a1), .val (.int 0), .val (.int 4), .val (.ref b2), .val (.int 1), .val (.ref b43)] [(.int c1)])) := by
      intro t kt
      refine pre55 t ?_
      rw [own_utfget c1 (own_fitAt VC 1 (by decide) rfl)]
      exact kt
    have pre57 : own_Go p e below S0 (T54.setTop (mkF m 56 #[.val (.ref a1), .val (.int 0), .val (.int 4), .val (.ref b2), .val (.int 1), .val (.ref b43)] [(.ref b43)])) := by
      intro t kt
      refine pre56 t ?_
      refine XS.sipush X54.here hx rfl (hb hby d7_35) ?_
      refine XS.icmpYes X54.here hx rfl (pc0 := 38) (pc' := 54) rfl (hb hby d7_38) rfl (tlt hg).2.2.1 (by decide) (by decide) ?_
      refine XS.aload X54.here hx rfl (hb hby d7_54) rfl rfl ?_
      exact kt
    obtain ⟨fs, hr, hrun, hended, hW, hsame⟩ := X54.leave (v := some (.ref b43)) (fun h => by rw [Bd.returns] at h; cases h)
    refine ⟨_, _, fin _ (pre57 _ ?_), hrun, hended, _, _, rfl, ?_, ⟨_, rfl⟩, hW, hsame.mono (by decide) (by decide)⟩
    · jvm_step X54.here [X54.here.top, hx, (hb hby d7_56), X54.method', Bd.returns, Value.isRef, FieldType.isReference]
      first | (intro acts; rw [hr _ acts rfl rfl rfl]) | rw [hr _ _ rfl rfl rfl]
      exact Steps.refl _
    · show Qcmp3_4 Z a1 kc c0 c1 c2 c3 h0 n0 _ T54.heap _
      rw [eq54]
      exact ⟨b43, kb44, rfl, N54, kc51, sz49, (Or.inr ⟨⟨own_fitAt VC 0 (by decide) rfl, ⟨own_fitAt VC 1 (by decide) rfl, ⟨own_fitAt VC 2 (by decide) rfl, ⟨own_fitAt VC 3 (by decide) rfl, trivial⟩⟩⟩⟩, g46⟩)⟩
  · have pre58 : own_Go p e below S0 (T10.setTop (mkF m 12 #[.val (.ref a1), .val (.int 0), .val (.int 4), .val (.ref b2), .unset, .unset] [(.int 2)])) := by
      intro t kt
      refine pre15 t ?_
      rw [hr]
      exact kt
    have pre59 : own_Go p e below S0 (T10.setTop (mkF m 23 #[.val (.ref a1), .val (.int 0), .val (.int 4), .val (.ref b2), .val (.int 2), .unset] [(.int 4), (.int 0), (.ref a1)])) := by
      intro t kt
      refine pre58 t ?_
      refine XS.istore X10.here hx rfl (hb hby d7_12) rfl (l' := #[.val (.ref a1), .val (.int 0), .val (.int 4), .val (.ref b2), .val (.int 2), .unset]) rfl ?_
      refine XS.iload X10.here hx rfl (hb hby d7_14) rfl ?_
      refine XS.iloadN X10.here hx rfl (hb hby d7_16) rfl ?_
      refine XS.icmpNo X10.here hx rfl (hb hby d7_17) rfl (feq (by decide : ¬ ((2 : Int32) = (4 : Int32)))).1 ?_
      refine XS.aloadN X10.here hx rfl (hb hby d7_20) rfl rfl ?_
      refine XS.iloadN X10.here hx rfl (hb hby d7_21) rfl ?_
      show Steps p.tables e below (T10.setTop (mkF m 22 #[.val (.ref a1), .val (.int 0), .val (.int 4), .val (.ref b2), .val (.int 2), .unset] [(.int 0), (.ref a1)])) _
      refine XS.iloadN X10.here hx rfl (hb hby d7_22) rfl ?_
      exact kt
    have f60 : Old Z n0 T10.heap := ((O0.ext E2).keep K10 (allS ge4 all0))
    have f61 : Arv Z T10.heap a1 kc .char (4 : Int32) [(.int c0), (.int c1), (.int c2), (.int c3)] (.int 0) := (f9.keep K10 (ninS ne3 nin0))
    obtain ⟨_, _, ⟨T62, L62, k62, n62⟩, -, X62, ⟨Lc62, hQ62, l62, y62, z62⟩, st62⟩ := Jvm.LawKit.callS X10 hx (y := own_m21) hown (mvT hZ (hw _ (own_w 77 rfl))) (mvT hZ (hw _ (own_w 78 rfl))) (mvT hZ (hw _ (own_w 40 rfl))) (mvT hZ (hw _ (own_w 79 rfl))) (by decide) (backOf (W := 0) (rmtoB_4 l Z a0 hw [] a1 kc c0 c1 c2 c3 T10.heap n0 zs13 f60 qU f61) hZ (hw _ (own_w 79 rfl)) (hw _ (own_w 40 rfl)) (by decide) (by decide)) (g := (mkF m 23 #[.val (.ref a1), .val (.int 0), .val (.int 4), .val (.ref b2), .val (.int 2), .unset] [(.int 4), (.int 0), (.ref a1)])) rfl (by rw [hml]; rfl) (argsL := [(.ref a1), (.int 0), (.int 4)]) (rest := []) (lenOf pd_6 rfl) rfl (by show 2 * 0 + _ ≤ _; exact Nat.le_of_eq rfl) (hb hby d7_23) (fun _ _ => ⟨rfl, rfl, (by decide : 1 + 1 ≤ _), (by decide : 4 + 8 ≤ _)⟩)
    dsimp only [Pt.U, Pt.locs, Pt.cells, Pt.slots] at X62 l62 y62 z62 st62 hQ62
    subst l62 y62 z62
    obtain ⟨b63, kb64, rfl, Nq62, K62, g65, g66⟩ := hQ62
    have N62 := Fr.app N10 Nq62
    have ne67 : a1 ≠ b63 := Nat.ne_of_lt (Nat.lt_of_lt_of_le f61.lt g65)
    have ge68 : n0 ≤ b63 := Nat.le_trans zs13 g65
    have sz69 : h0.size ≤ b63 := Nat.le_trans kc14.1 g65
    have zs70 : n0 ≤ T62.heap.size := Nat.le_trans zs13 K62.1
    have kc71 : Keep h0 T62.heap [] := kc14.trans K62 all0
    have pre72 : own_Go p e below S0 (T62.setTop (mkF m 32 #[.val (.ref a1), .val (.int 0), .val (.int 4), .val (.ref b2), .val (.int 2), .val (.ref b63)] [(.int 2), (.ref b63)])) := by
      intro t kt
      refine pre59 t ?_
      refine st62 _ ?_
      show Steps p.tables e below (T62.setTop (mkF m 26 #[.val (.ref a1), .val (.int 0), .val (.int 4), .val (.ref b2), .val (.int 2), .unset] [(.ref b63)])) _
      refine XS.astore X62.here hx rfl (hb hby d7_26) rfl rfl (l' := #[.val (.ref a1), .val (.int 0), .val (.int 4), .val (.ref b2), .val (.int 2), .val (.ref b63)]) rfl ?_
      refine XS.aload X62.here hx rfl (hb hby d7_28) rfl rfl ?_
      refine XS.iload X62.here hx rfl (hb hby d7_30) rfl ?_
      exact kt
    have f73 : Old Z n0 T62.heap := (f60.keep K62 all0)
    obtain ⟨_, _, ⟨T74, L74, k74, n74⟩, -, X74, ⟨Lc74, hQ74, l74, y74, z74⟩, st74⟩ := Jvm.LawKit.callS X62 hx (y := own_m16) hown (mvT hZ (hw _ (own_w 93 rfl))) (mvT hZ (hw _ (own_w 94 rfl))) (mvT hZ (hw _ (own_w 40 rfl))) (mvT hZ (hw _ (own_w 95 rfl))) (by decide) (backOf (W := 0) (rmgetc l Z a0 hw [] b63 (2 : Int32) kb64 (8 : Int32) [(.int (nar .byte ((c0 >>> ((0 : Int32) &&& 31)).toInt8.toInt32))), (.int (nar .byte ((c0 >>> ((8 : Int32) &&& 31)).toInt8.toInt32))), (.int (nar .byte ((c1 >>> ((0 : Int32) &&& 31)).toInt8.toInt32))), (.int (nar .byte ((c1 >>> ((8 : Int32) &&& 31)).toInt8.toInt32))), (.int (nar .byte ((c2 >>> ((0 : Int32) &&& 31)).toInt8.toInt32))), (.int (nar .byte ((c2 >>> ((8 : Int32) &&& 31)).toInt8.toInt32))), (.int (nar .byte ((c3 >>> ((0 : Int32) &&& 31)).toInt8.toInt32))), (.int (nar .byte ((c3 >>> ((8 : Int32) &&& 31)).toInt8.toInt32)))] (.int 0) (nar .byte ((c2 >>> ((0 : Int32) &&& 31)).toInt8.toInt32)) (nar .byte ((c2 >>> ((8 : Int32) &&& 31)).toInt8.toInt32)) 4 5 T62.heap n0 zs70 f73 qU g66 (by decide +kernel) (by decide +kernel) (by decide +kernel) rfl (by decide +kernel) (by decide +kernel) (by decide +kernel) rfl) hZ (hw _ (own_w 95 rfl)) (hw _ (own_w 40 rfl)) (by decide) (by decide)) (g := (mkF m 32 #[.val (.ref a1), .val (.int 0), .val (.int 4), .val (.ref b2), .val (.int 2), .val (.ref b63)] [(.int 2), (.ref b63)])) rfl (by rw [hml]; rfl) (argsL := [(.ref b63), (.int 2)]) (rest := []) (lenOf pd_7 rfl) rfl (by show 2 * 0 + _ ≤ _; exact Nat.le_of_eq rfl) (hb hby d7_32) (fun _ _ => ⟨rfl, rfl, (by decide : 2 + 0 ≤ _), (by decide : 12 + 0 ≤ _)⟩)
    dsimp only [Pt.U, Pt.locs, Pt.cells, Pt.slots] at X74 l74 y74 z74 st74 hQ74
    subst l74 y74 z74
    obtain ⟨rfl, Nq74, eq74⟩ := hQ74
    have N74 := Fr.app N62 Nq74
    have pre75 : own_Go p e below S0 (T74.setTop (mkF m 35 #[.val (.ref a1), .val (.int 0), .val (.int 4), .val (.ref b2), .val (.int 2), .val (.ref b63)] [(.int (own_gc (nar .byte ((c2 >>> ((0 : Int32) &&& 31)).toInt8.toInt32)) (nar .byte ((c2 >>> ((8 : Int32) &&& 31)).toInt8.toInt32))))])) := by
      intro t kt
      refine pre72 t ?_
      refine st74 _ ?_
      show Steps p.tables e below (T74.setTop (mkF m 35 #[.val (.ref a1), .val (.int 0), .val (.int 4), .val (.ref b2), .val (.int 2), .val (.ref b63)] [(.int (own_gc (nar .byte ((c2 >>> ((0 : Int32) &&& 31)).toInt8.toInt32)) (nar .byte ((c2 >>> ((8 : Int32) &&& 31)).toInt8.toInt32))))])) _
      exact kt
    have pre76 : own_Go p e below S0 (T74.setTop (mkF m 35 #[.val (.ref a1), .val (.int 0), .val (.int 4), .val (.ref b2), .val (.int 2), .val (.ref b63)] [(.int c2)])) := by
      intro t kt
      refine pre75 t ?_
      rw [own_utfget c2 (own_fitAt VC 2 (by decide) rfl)]
      exact kt
    have pre77 : own_Go p e below S0 (T74.setTop (mkF m 56 #[.val (.ref a1), .val (.int 0), .val (.int 4), .val (.ref b2), .val (.int 2), .val (.ref b63)] [(.ref b63)])) := by
      intro t kt
      refine pre76 t ?_
      refine XS.sipush X74.here hx rfl (hb hby d7_35) ?_
      refine XS.icmpYes X74.here hx rfl (pc0 := 38) (pc' := 54) rfl (hb hby d7_38) rfl (tlt hg).2.2.1 (by decide) (by decide) ?_
      refine XS.aload X74.here hx rfl (hb hby d7_54) rfl rfl ?_
      exact kt
    obtain ⟨fs, hr, hrun, hended, hW, hsame⟩ := X74.leave (v := some (.ref b63)) (fun h => by rw [Bd.returns] at h; cases h)
    refine ⟨_, _, fin _ (pre77 _ ?_), hrun, hended, _, _, rfl, ?_, ⟨_, rfl⟩, hW, hsame.mono (by decide) (by decide)⟩
    · jvm_step X74.here [X74.here.top, hx, (hb hby d7_56), X74.method', Bd.returns, Value.isRef, FieldType.isReference]
      first | (intro acts; rw [hr _ acts rfl rfl rfl]) | rw [hr _ _ rfl rfl rfl]
      exact Steps.refl _
    · show Qcmp3_4 Z a1 kc c0 c1 c2 c3 h0 n0 _ T74.heap _
      rw [eq74]
      exact ⟨b63, kb64, rfl, N74, kc71, sz69, (Or.inr ⟨⟨own_fitAt VC 0 (by decide) rfl, ⟨own_fitAt VC 1 (by decide) rfl, ⟨own_fitAt VC 2 (by decide) rfl, ⟨own_fitAt VC 3 (by decide) rfl, trivial⟩⟩⟩⟩, g66⟩)⟩
  · have pre78 : own_Go p e below S0 (T10.setTop (mkF m 12 #[.val (.ref a1), .val (.int 0), .val (.int 4), .val (.ref b2), .unset, .unset] [(.int 3)])) := by
      intro t kt
      refine pre15 t ?_
      rw [hr]
      exact kt
    have pre79 : own_Go p e below S0 (T10.setTop (mkF m 23 #[.val (.ref a1), .val (.int 0), .val (.int 4), .val (.ref b2), .val (.int 3), .unset] [(.int 4), (.int 0), (.ref a1)])) := by
      intro t kt
      refine pre78 t ?_
      refine XS.istore X10.here hx rfl (hb hby d7_12) rfl (l' := #[.val (.ref a1), .val (.int 0), .val (.int 4), .val (.ref b2), .val (.int 3), .unset]) rfl ?_
      refine XS.iload X10.here hx rfl (hb hby d7_14) rfl ?_
      refine XS.iloadN X10.here hx rfl (hb hby d7_16) rfl ?_
      refine XS.icmpNo X10.here hx rfl (hb hby d7_17) rfl (feq (by decide : ¬ ((3 : Int32) = (4 : Int32)))).1 ?_
      refine XS.aloadN X10.here hx rfl (hb hby d7_20) rfl rfl ?_
      refine XS.iloadN X10.here hx rfl (hb hby d7_21) rfl ?_
      show Steps p.tables e below (T10.setTop (mkF m 22 #[.val (.ref a1), .val (.int 0), .val (.int 4), .val (.ref b2), .val (.int 3), .unset] [(.int 0), (.ref a1)])) _
      refine XS.iloadN X10.here hx rfl (hb hby d7_22) rfl ?_
      exact kt
    have f80 : Old Z n0 T10.heap := ((O0.ext E2).keep K10 (allS ge4 all0))
    have f81 : Arv Z T10.heap a1 kc .char (4 : Int32) [(.int c0), (.int c1), (.int c2), (.int c3)] (.int 0) := (f9.keep K10 (ninS ne3 nin0))
    obtain ⟨_, _, ⟨T82, L82, k82, n82⟩, -, X82, ⟨Lc82, hQ82, l82, y82, z82⟩, st82⟩ := Jvm.LawKit.callS X10 hx (y := own_m21) hown (mvT hZ (hw _ (own_w 77 rfl))) (mvT hZ (hw _ (own_w 78 rfl))) (mvT hZ (hw _ (own_w 40 rfl))) (mvT hZ (hw _ (own_w 79 rfl))) (by decide) (backOf (W := 0) (rmtoB_4 l Z a0 hw [] a1 kc c0 c1 c2 c3 T10.heap n0 zs13 f80 qU f81) hZ (hw _ (own_w 79 rfl)) (hw _ (own_w 40 rfl)) (by decide) (by decide)) (g := (mkF m 23 #[.val (.ref a1), .val (.int 0), .val (.int 4), .val (.ref b2), .val (.int 3), .unset] [(.int 4), (.int 0), (.ref a1)])) rfl (by rw [hml]; rfl) (argsL := [(.ref a1), (.int 0), (.int 4)]) (rest := []) (lenOf pd_6 rfl) rfl (by show 2 * 0 + _ ≤ _; exact Nat.le_of_eq rfl) (hb hby d7_23) (fun _ _ => ⟨rfl, rfl, (by decide : 1 + 1 ≤ _), (by decide : 4 + 8 ≤ _)⟩)
    dsimp only [Pt.U, Pt.locs, Pt.cells, Pt.slots] at X82 l82 y82 z82 st82 hQ82
    subst l82 y82 z82
    obtain ⟨b83, kb84, rfl, Nq82, K82, g85, g86⟩ := hQ82
    have N82 := Fr.app N10 Nq82
    have ne87 : a1 ≠ b83 := Nat.ne_of_lt (Nat.lt_of_lt_of_le f81.lt g85)
    have ge88 : n0 ≤ b83 := Nat.le_trans zs13 g85
    have sz89 : h0.size ≤ b83 := Nat.le_trans kc14.1 g85
    have zs90 : n0 ≤ T82.heap.size := Nat.le_trans zs13 K82.1
    have kc91 : Keep h0 T82.heap [] := kc14.trans K82 all0
    have pre92 : own_Go p e below S0 (T82.setTop (mkF m 32 #[.val (.ref a1), .val (.int 0), .val (.int 4), .val (.ref b2), .val (.int 3), .val (.ref b83)] [(.int 3), (.ref b83)])) := by
      intro t kt
      refine pre79 t ?_
      refine st82 _ ?_
      show Steps p.tables e below (T82.setTop (mkF m 26 #[.val (.ref a1), .val (.int 0), .val (.int 4), .val (.ref b2), .val (.int 3), .unset] [(.ref b83)])) _
      refine XS.astore X82.here hx rfl (hb hby d7_26) rfl rfl (l' := #[.val (.ref a1), .val (.int 0), .val (.int 4), .val (.ref b2), .val (.int 3), .val (.ref b83)]) rfl ?_
      refine XS.aload X82.here hx rfl (hb hby d7_28) rfl rfl ?_
      refine XS.iload X82.here hx rfl (hb hby d7_30) rfl ?_
      exact kt
    have f93 : Old Z n0 T82.heap := (f80.keep K82 all0)
    obtain ⟨_, _, ⟨T94, L94, k94, n94⟩, -, X94, ⟨Lc94, hQ94, l94, y94, z94⟩, st94⟩ := Jvm.LawKit.callS X82 hx (y := own_m16) hown (mvT hZ (hw _ (own_w 93 rfl))) (mvT hZ (hw _ (own_w 94 rfl))) (mvT hZ (hw _ (own_w 40 rfl))) (mvT hZ (hw _ (own_w 95 rfl))) (by decide) (backOf (W := 0) (rmgetc l Z a0 hw [] b83 (3 : Int32) kb84 (8 : Int32) [(.int (nar .byte ((c0 >>> ((0 : Int32) &&& 31)).toInt8.toInt32))), (.int (nar .byte ((c0 >>> ((8 : Int32) &&& 31)).toInt8.toInt32))), (.int (nar .byte ((c1 >>> ((0 : Int32) &&& 31)).toInt8.toInt32))), (.int (nar .byte ((c1 >>> ((8 : Int32) &&& 31)).toInt8.toInt32))), (.int (nar .byte ((c2 >>> ((0 : Int32) &&& 31)).toInt8.toInt32))), (.int (nar .byte ((c2 >>> ((8 : Int32) &&& 31)).toInt8.toInt32))), (.int (nar .byte ((c3 >>> ((0 : Int32) &&& 31)).toInt8.toInt32))), (.int (nar .byte ((c3 >>> ((8 : Int32) &&& 31)).toInt8.toInt32)))] (.int 0) (nar .byte ((c3 >>> ((0 : Int32) &&& 31)).toInt8.toInt32)) (nar .byte ((c3 >>> ((8 : Int32) &&& 31)).toInt8.toInt32)) 6 7 T82.heap n0 zs90 f93 qU g86 (by decide +kernel) (by decide +kernel) (by decide +kernel) rfl (by decide +kernel) (by decide +kernel) (by decide +kernel) rfl) hZ (hw _ (own_w 95 rfl)) (hw _ (own_w 40 rfl)) (by decide) (by decide)) (g := (mkF m 32 #[.val (.ref a1), .val (.int 0), .val (.int 4), .val (.ref b2), .val (.int 3), .val (.ref b83)] [(.int 3), (.ref b83)])) rfl (by rw [hml]; rfl) (argsL := [(.ref b83), (.int 3)]) (rest := []) (lenOf pd_7 rfl) rfl (by show 2 * 0 + _ ≤ _; exact Nat.le_of_eq rfl) (hb hby d7_32) (fun _ _ => ⟨rfl, rfl, (by decide : 2 + 0 ≤ _), (by decide : 12 + 0 ≤ _)⟩)
    dsimp only [Pt.U, Pt.locs, Pt.cells, Pt.slots] at X94 l94 y94 z94 st94 hQ94
    subst l94 y94 z94
    obtain ⟨rfl, Nq94, eq94⟩ := hQ94
    have N94 := Fr.app N82 Nq94
    have pre95 : own_Go p e below S0 (T94.setTop (mkF m 35 #[.val (.ref a1), .val (.int 0), .val (.int 4), .val (.ref b2), .val (.int 3), .val (.ref b83)] [(.int (own_gc (nar .byte ((c3 >>> ((0 : Int32) &&& 31)).toInt8.toInt32)) (nar .byte ((c3 >>> ((8 : Int32) &&& 31)).toInt8.toInt32))))])) := by
      intro t kt
      refine pre92 t ?_
      refine st94 _ ?_
      show Steps p.tables e below (T94.setTop (mkF m 35 #[.val (.ref a1), .val (.int 0), .val (.int 4), .val (.ref b2), .val (.int 3), .val (.ref b83)] [(.int (own_gc (nar .byte ((c3 >>> ((0 : Int32) &&& 31)).toInt8.toInt32)) (nar .byte ((c3 >>> ((8 : Int32) &&& 31)).toInt8.toInt32))))])) _
      exact kt
    have pre96 : own_Go p e below S0 (T94.setTop (mkF m 35 #[.val (.ref a1), .val (.int 0), .val (.int 4), .val (.ref b2), .val (.int 3), .val (.ref b83)] [(.int c3)])) := by
      intro t kt
      refine pre95 t ?_
      rw [own_utfget c3 (own_fitAt VC 3 (by decide) rfl)]
      exact kt
    have pre97 : own_Go p e below S0 (T94.setTop (mkF m 56 #[.val (.ref a1), .val (.int 0), .val (.int 4), .val (.ref b2), .val (.int 3), .val (.ref b83)] [(.ref b83)])) := by
      intro t kt
      refine pre96 t ?_
      refine XS.sipush X94.here hx rfl (hb hby d7_35) ?_
      refine XS.icmpYes X94.here hx rfl (pc0 := 38) (pc' := 54) rfl (hb hby d7_38) rfl (tlt hg).2.2.1 (by decide) (by decide) ?_
      refine XS.aload X94.here hx rfl (hb hby d7_54) rfl rfl ?_
      exact kt
    obtain ⟨fs, hr, hrun, hended, hW, hsame⟩ := X94.leave (v := some (.ref b83)) (fun h => by rw [Bd.returns] at h; cases h)
    refine ⟨_, _, fin _ (pre97 _ ?_), hrun, hended, _, _, rfl, ?_, ⟨_, rfl⟩, hW, hsame.mono (by decide) (by decide)⟩
    · jvm_step X94.here [X94.here.top, hx, (hb hby d7_56), X94.method', Bd.returns, Value.isRef, FieldType.isReference]
      first | (intro acts; rw [hr _ acts rfl rfl rfl]) | rw [hr _ _ rfl rfl rfl]
      exact Steps.refl _
    · show Qcmp3_4 Z a1 kc c0 c1 c2 c3 h0 n0 _ T94.heap _
      rw [eq94]
      exact ⟨b83, kb84, rfl, N94, kc91, sz89, (Or.inr ⟨⟨own_fitAt VC 0 (by decide) rfl, ⟨own_fitAt VC 1 (by decide) rfl, ⟨own_fitAt VC 2 (by decide) rfl, ⟨own_fitAt VC 3 (by decide) rfl, trivial⟩⟩⟩⟩, g86⟩)⟩

theorem ef_init4_4 (m : MethodId) (x0 : Addr) (x1 : Addr) : entryFrame m #[(.ref x0), (.ref x1), (.int 0), (.int 4), .null] 6 = mkF m 0 #[.val (.ref x0), .val (.ref x1), .val (.int 0), .val (.int 4), .val .null, .unset] [] := by first | (simp [entryFrame, mkF, argsToLocals, Value.category]; done) | rfl
def Qinit4_4 (Z : State) (a1 : Addr) (a2 : Addr) (kc : ClassId) (c0 : Int32) (c1 : Int32) (c2 : Int32) (c3 : Int32) (wC : Int32) (h0 : Heap) (n0 : Nat) (v : Option Value) (h : Heap) (L : List Loc) : Prop := ∃ vb : Addr, ∃ kb : ClassId, v = none ∧ Fr n0 L ∧ Keep h0 h [a1] ∧ h0.size ≤ vb ∧ own_Str Z h a1 vb kb [c0, c1, c2, c3]
set_option maxRecDepth 65536 in
set_option maxHeartbeats 40000000 in
theorem rminit4_4 (l : Launch) (Z : State) (a0 : Array Value) (hw : ∀ d ∈ tables_1, d.before a0 Z = true) (ws : List Jvm.Cond) (a1 : Addr) (a2 : Addr) (kc : ClassId) (c0 : Int32) (c1 : Int32) (c2 : Int32) (c3 : Int32) (wC : Int32) (h0 : Heap) (n0 : Nat) (Z0 : n0 ≤ h0.size) (O0 : Old Z n0 h0) (qC : (own_SC Z wC)) (qU : (own_SU Z)) (E1 : Exa Z h0 a1 "java/lang/String") (F1 : Fld Z h0 a1 "java/lang/String" "value" "[B" .null) (F2 : Fld Z h0 a1 "java/lang/String" "coder" "B" (.int 0)) (g1 : n0 ≤ a1) (VC : Arv Z h0 a2 kc .char (4 : Int32) [(.int c0), (.int c1), (.int c2), (.int c3)] (.int 0)) :
    MetFree l own_m4 (head1 (Jvm.Cond.code own_m4 jdk_42_method_149_code 6 none :: ws) (own_r 4 2 12 57)) (fun a U => a = #[(.ref a1), (.ref a2), (.int 0), (.int 4), .null] ∧ Z.Warmed39 U.vm ∧ U.heap = h0) (fun _ _ _ _ _ => True) (fun _ U o U' => ∃ v L, o = .returned v ∧ Qinit4_4 Z a1 a2 kc c0 c1 c2 c3 wC h0 n0 v U'.heap L ∧ FrameEnd U o U' L (own_r 4 2 12 57).cells (own_r 4 2 12 57).slots) := by
  refine MetFree.of_bodySF (plainFor_of_name pn_2) hisR ?_
  intro p e s m args below meth c s₁ Bd hml0 hP hK
  obtain ⟨rfl, hZ, hh⟩ := hP
  have hx := Bd.exec
  have hby := Bd.bytes
  have hml : c.maxLocals = 6 := hml0
  have hown0 := findClass_of_methodNamed Bd.named
  have hown : s.vm.findClass "java/lang/String" = some m.cls := hown0
  have hnm := (name_of_methodNamed Bd.named Bd.method).1
  have X0 : Stand p l e (own_r 4 2 12 57) s m #[(.ref a1), (.ref a2), (.int 0), (.int 4), .null] below meth c s₁ [] 0 0 := Stand.of_body Bd
  have e0 : s₁.heap = h0 := by rw [← hh, Bd.state]; rfl
  have N0 := Fr.nil n0
  obtain ⟨S0, hS0⟩ : ∃ z, z = s₁.setTop (entryFrame m #[(.ref a1), (.ref a2), (.int 0), (.int 4), .null] 6) := ⟨_, rfl⟩
  have pre0 : own_Go p e below S0 (s₁.setTop (mkF m 0 #[.val (.ref a1), .val (.ref a2), .val (.int 0), .val (.int 4), .val .null, .unset] [])) := fun t k => by rw [hS0]; exact castTop (ef_init4_4 m a1 a2) k
  have fin : ∀ t, Steps p.tables e below S0 t → Steps p.tables e below (s₁.setTop (entryFrame m #[(.ref a1), (.ref a2), (.int 0), (.int 4), .null] 6)) t := fun t k => by rw [hS0] at k; exact k
  have kc0 : Keep h0 h0 [a1] := Keep.refl _ _
  have pre1 : own_Go p e below S0 (s₁.setTop (mkF m 1 #[.val (.ref a1), .val (.ref a2), .val (.int 0), .val (.int 4), .val .null, .unset] [(.ref a1)])) := by
    intro t kt
    refine pre0 t ?_
    refine XS.aloadN X0.here hx rfl (hb hby d2_0) rfl rfl ?_
    exact kt
  obtain ⟨T2, X2, e2, st2⟩ := initO X0 hx hZ hown (hw _ (own_w 12 rfl)) (hw _ (own_w 13 rfl)) (hw _ (own_w 14 rfl)) e0 (g := (mkF m 1 #[.val (.ref a1), .val (.ref a2), .val (.int 0), .val (.int 4), .val .null, .unset] [(.ref a1)])) rfl (by rw [hml]; rfl) rfl (hb hby d2_1) (by decide) (W := 0) (by show 2 * 0 + _ ≤ _; exact Nat.le_of_eq rfl) (by decide)
  have pre3 : own_Go p e below S0 (T2.setTop (mkF m 27 #[.val (.ref a1), .val (.ref a2), .val (.int 0), .val (.int 4), .val .null, .unset] [])) := by
    intro t kt
    refine pre1 t ?_
    refine st2 _ ?_
    refine XS.iloadN X2.here hx rfl (hb hby d2_4) rfl ?_
    refine XS.ifYes X2.here hx rfl (pc0 := 5) (pc' := 27) rfl (hb hby d2_5) rfl ((if0 _ _).trans (feq (by decide : ¬ ((4 : Int32) = (0 : Int32)))).2) (by decide) (by decide) ?_
    exact kt
  obtain ⟨T4, X4, e4, st4⟩ := getS2 X2 hx hZ hown (host := "") (Or.inl (hw _ (own_w 37 rfl))) Via.refl e2 (qC.1.ext O0.2) (g := (mkF m 27 #[.val (.ref a1), .val (.ref a2), .val (.int 0), .val (.int 4), .val .null, .unset] [])) rfl (hb hby d2_27)
  have pre5 : own_Go p e below S0 (T4.setTop (mkF m 36 #[.val (.ref a1), .val (.ref a2), .val (.int 0), .val (.int 4), .val .null, .unset] [(.int 4), (.int 0), (.ref a2)])) := by
    intro t kt
    refine pre3 t ?_
    refine st4 _ ?_
    refine XS.ifNo X4.here hx rfl (hb hby d2_30) rfl ((if0 _ _).trans (feq qC.2).1) ?_
    refine XS.aloadN X4.here hx rfl (hb hby d2_33) rfl rfl ?_
    refine XS.iloadN X4.here hx rfl (hb hby d2_34) rfl ?_
    refine XS.iloadN X4.here hx rfl (hb hby d2_35) rfl ?_
    exact kt
  obtain ⟨_, _, ⟨T6, L6, k6, n6⟩, -, X6, ⟨Lc6, hQ6, l6, y6, z6⟩, st6⟩ := Jvm.LawKit.callS X4 hx (y := own_m14) hown (mvT hZ (hw _ (own_w 38 rfl))) (mvT hZ (hw _ (own_w 39 rfl))) (mvT hZ (hw _ (own_w 40 rfl))) (mvT hZ (hw _ (own_w 41 rfl))) (by decide) (backOf (W := 0) (rmcmp3_4 l Z a0 hw [] a2 kc c0 c1 c2 c3 h0 n0 Z0 O0 qU VC) hZ (hw _ (own_w 41 rfl)) (hw _ (own_w 40 rfl)) (by decide) (by decide)) (g := (mkF m 36 #[.val (.ref a1), .val (.ref a2), .val (.int 0), .val (.int 4), .val .null, .unset] [(.int 4), (.int 0), (.ref a2)])) rfl (by rw [hml]; rfl) (argsL := [(.ref a2), (.int 0), (.int 4)]) (rest := []) (lenOf pd_6 rfl) rfl (by show 2 * 0 + _ ≤ _; exact Nat.le_of_eq rfl) (hb hby d2_36) (fun _ _ => ⟨rfl, e4, (by decide : 0 + 2 ≤ _), (by decide : 0 + 12 ≤ _)⟩)
  dsimp only [Pt.U, Pt.locs, Pt.cells, Pt.slots] at X6 l6 y6 z6 st6 hQ6
  subst l6 y6 z6
  obtain ⟨b7, kb8, rfl, Nq6, K6, g9, g10⟩ := hQ6
  have N6 := Fr.app N0 Nq6
  have ne11 : a1 ≠ b7 := Nat.ne_of_lt (Nat.lt_of_lt_of_le E1.lt g9)
  have ne12 : a2 ≠ b7 := Nat.ne_of_lt (Nat.lt_of_lt_of_le VC.lt g9)
  have ge13 : n0 ≤ b7 := Nat.le_trans Z0 g9
  have sz14 : h0.size ≤ b7 := Nat.le_trans kc0.1 g9
  have zs15 : n0 ≤ T6.heap.size := Nat.le_trans Z0 K6.1
  have kc16 : Keep h0 T6.heap [a1] := kc0.trans K6 all0
  have pre17 : own_Go p e below S0 (T6.setTop (mkF m 39 #[.val (.ref a1), .val (.ref a2), .val (.int 0), .val (.int 4), .val .null, .unset] [(.ref b7)])) := by
    intro t kt
    refine pre5 t ?_
    refine st6 _ ?_
    show Steps p.tables e below (T6.setTop (mkF m 39 #[.val (.ref a1), .val (.ref a2), .val (.int 0), .val (.int 4), .val .null, .unset] [(.ref b7)])) _
    exact kt
  obtain ⟨hl, hv⟩ | ⟨hl, hv⟩ := g10
  · have pre18 : own_Go p e below S0 (T6.setTop (mkF m 45 #[.val (.ref a1), .val (.ref a2), .val (.int 0), .val (.int 4), .val .null, .val (.ref b7)] [(.int 4), (.ref b7), (.ref a1)])) := by
      intro t kt
      refine pre17 t ?_
      refine XS.astore X6.here hx rfl (hb hby d2_39) rfl rfl (l' := #[.val (.ref a1), .val (.ref a2), .val (.int 0), .val (.int 4), .val .null, .val (.ref b7)]) rfl ?_
      refine XS.aloadN X6.here hx rfl (hb hby d2_41) rfl rfl ?_
      refine XS.aload X6.here hx rfl (hb hby d2_42) rfl rfl ?_
      refine XS.iloadN X6.here hx rfl (hb hby d2_44) rfl ?_
      exact kt
    obtain ⟨_, _, ⟨T19, L19, k19, n19⟩, -, X19, ⟨Lc19, hQ19, l19, y19, z19⟩, st19⟩ := Jvm.LawKit.callS X6 hx (y := own_m13) hown (mvT hZ (hw _ (own_w 45 rfl))) (mvT hZ (hw _ (own_w 46 rfl))) (mvT hZ (hw _ (own_w 40 rfl))) (mvT hZ (hw _ (own_w 47 rfl))) (by decide) (backOf (W := 1) (rmcofa l Z a0 hw [] b7 (4 : Int32) kb8 (4 : Int32) [(.int (nar .byte (c0.toInt8.toInt32))), (.int (nar .byte (c1.toInt8.toInt32))), (.int (nar .byte (c2.toInt8.toInt32))), (.int (nar .byte (c3.toInt8.toInt32)))] (.int 0) T6.heap n0 zs15 hv) hZ (hw _ (own_w 47 rfl)) (hw _ (own_w 40 rfl)) (by decide) (by decide)) (g := (mkF m 45 #[.val (.ref a1), .val (.ref a2), .val (.int 0), .val (.int 4), .val .null, .val (.ref b7)] [(.int 4), (.ref b7), (.ref a1)])) rfl (by rw [hml]; rfl) (argsL := [(.ref b7), (.int 4)]) (rest := [(.ref a1)]) (lenOf pd_8 rfl) rfl (by show 2 * 0 + _ ≤ _; exact Nat.le_of_eq rfl) (hb hby d2_45) (fun _ _ => ⟨rfl, rfl, (by decide : 2 + 0 ≤ _), (by decide : 12 + 0 ≤ _)⟩)
    dsimp only [Pt.U, Pt.locs, Pt.cells, Pt.slots] at X19 l19 y19 z19 st19 hQ19
    subst l19 y19 z19
    obtain ⟨rfl, Nq19, eq19⟩ := hQ19
    have N19 := Fr.app N6 Nq19
    have pre20 : own_Go p e below S0 (T19.setTop (mkF m 48 #[.val (.ref a1), .val (.ref a2), .val (.int 0), .val (.int 4), .val .null, .val (.ref b7)] [(.int (own_cofa (4 : Int32) (4 : Int32))), (.ref a1)])) := by
      intro t kt
      refine pre18 t ?_
      refine st19 _ ?_
      show Steps p.tables e below (T19.setTop (mkF m 48 #[.val (.ref a1), .val (.ref a2), .val (.int 0), .val (.int 4), .val .null, .val (.ref b7)] [(.int (own_cofa (4 : Int32) (4 : Int32))), (.ref a1)])) _
      exact kt
    have pre21 : own_Go p e below S0 (T19.setTop (mkF m 48 #[.val (.ref a1), .val (.ref a2), .val (.int 0), .val (.int 4), .val .null, .val (.ref b7)] [(.int 0), (.ref a1)])) := by
      intro t kt
      refine pre20 t ?_
      rw [(by decide : (own_cofa (4 : Int32) (4 : Int32)) = (0 : Int32))]
      exact kt
    have f22 : Fld Z T6.heap a1 "java/lang/String" "coder" "B" (.int 0) := (F2.keep K6 nin0)
    have f23 : Exa Z T6.heap a1 "java/lang/String" := (E1.keep K6)
    obtain ⟨T24, h24, X24, e24, W24, st24⟩ := putFN X19 hx hZ hown (hw _ (own_w 22 rfl)) Via.refl eq19 f22 f23 (Or.inr ⟨(hw _ (own_w 18 rfl)), rfl, hnm⟩) (hw _ (own_w 3 rfl)) (ty := .byte) (v' := (.int 0)) (by decide) rfl (by decide) (g := (mkF m 48 #[.val (.ref a1), .val (.ref a2), .val (.int 0), .val (.int 4), .val .null, .val (.ref b7)] [(.int 0), (.ref a1)])) rfl rfl (hb hby d2_48)
    have N24 := Fr.snoc X24 N19 g1
    have zs25 : n0 ≤ h24.size := Nat.le_trans zs15 (Keep.of_wr W24).1
    have kc26 : Keep h0 h24 [a1] := kc16.wr W24 (Or.inl (List.mem_of_getElem? (i := 0) rfl))
    have fw24 : Fld Z h24 a1 "java/lang/String" "coder" "B" (.int 0) := f22.same W24
    have pre27 : own_Go p e below S0 (T24.setTop (mkF m 54 #[.val (.ref a1), .val (.ref a2), .val (.int 0), .val (.int 4), .val .null, .val (.ref b7)] [(.ref b7), (.ref a1)])) := by
      intro t kt
      refine pre21 t ?_
      refine st24 _ ?_
      refine XS.aloadN X24.here hx rfl (hb hby d2_51) rfl rfl ?_
      refine XS.aload X24.here hx rfl (hb hby d2_52) rfl rfl ?_
      exact kt
    have f28 : Fld Z h24 a1 "java/lang/String" "value" "[B" .null := ((F1.keep K6 nin0).other W24 (Or.inr (slot_ne (Or.inr (hw _ (own_w 17 rfl))) (Or.inr (hw _ (own_w 18 rfl))) (by decide) (t := (.array .byte)) (t' := .byte) (by decide) (by decide))))
    have f29 : Exa Z h24 a1 "java/lang/String" := (f23.wr W24)
    obtain ⟨T30, h30, X30, e30, W30, st30⟩ := putF X24 hx hZ hown (host := "") (Or.inl (hw _ (own_w 21 rfl))) Via.refl e24 f28 f29 (Or.inr ⟨(hw _ (own_w 17 rfl)), rfl, hnm⟩) (hw _ (own_w 3 rfl)) (ty := (.array .byte)) (by decide) rfl rfl (g := (mkF m 54 #[.val (.ref a1), .val (.ref a2), .val (.int 0), .val (.int 4), .val .null, .val (.ref b7)] [(.ref b7), (.ref a1)])) rfl rfl (hb hby d2_54)
    have N30 := Fr.snoc X30 N24 g1
    have zs31 : n0 ≤ h30.size := Nat.le_trans zs25 (Keep.of_wr W30).1
    have kc32 : Keep h0 h30 [a1] := kc26.wr W30 (Or.inl (List.mem_of_getElem? (i := 0) rfl))
    have fw30 : Fld Z h30 a1 "java/lang/String" "value" "[B" (.ref b7) := f28.same W30
    have pre33 : own_Go p e below S0 (T30.setTop (mkF m 57 #[.val (.ref a1), .val (.ref a2), .val (.int 0), .val (.int 4), .val .null, .val (.ref b7)] [])) := by
      intro t kt
      refine pre27 t ?_
      refine st30 _ ?_
      exact kt
    have f34 : Exa Z h30 a1 "java/lang/String" := (f29.wr W30)
    have f35 : Fld Z h30 a1 "java/lang/String" "coder" "B" (.int 0) := (fw24.other W30 (Or.inr (slot_ne (Or.inr (hw _ (own_w 18 rfl))) (Or.inr (hw _ (own_w 17 rfl))) (by decide) (t := .byte) (t' := (.array .byte)) (by decide) (by decide))))
    have f36 : Arv Z h30 b7 kb8 .byte (4 : Int32) [(.int (nar .byte (c0.toInt8.toInt32))), (.int (nar .byte (c1.toInt8.toInt32))), (.int (nar .byte (c2.toInt8.toInt32))), (.int (nar .byte (c3.toInt8.toInt32)))] (.int 0) := ((hv.other W24 (Ne.symm ne11)).other W30 (Ne.symm ne11))
    obtain ⟨fs, hr, hrun, hended, hW, hsame⟩ := X30.leave (v := none) (fun _ => rfl)
    refine ⟨_, _, fin _ (pre33 _ ?_), hrun, hended, _, _, rfl, ?_, ⟨_, rfl⟩, hW, hsame.mono (by decide) (by decide)⟩
    · exact X30.returnOut hx Bd.returns (hb hby d2_57) hr
    · show Qinit4_4 Z a1 a2 kc c0 c1 c2 c3 wC h0 n0 _ T30.heap _
      rw [e30]
      exact ⟨b7, kb8, rfl, N30, kc32, sz14, ⟨f34, fw30, Or.inl ⟨f35, hl, f36⟩⟩⟩
  · have pre37 : own_Go p e below S0 (T6.setTop (mkF m 45 #[.val (.ref a1), .val (.ref a2), .val (.int 0), .val (.int 4), .val .null, .val (.ref b7)] [(.int 4), (.ref b7), (.ref a1)])) := by
      intro t kt
      refine pre17 t ?_
      refine XS.astore X6.here hx rfl (hb hby d2_39) rfl rfl (l' := #[.val (.ref a1), .val (.ref a2), .val (.int 0), .val (.int 4), .val .null, .val (.ref b7)]) rfl ?_
      refine XS.aloadN X6.here hx rfl (hb hby d2_41) rfl rfl ?_
      refine XS.aload X6.here hx rfl (hb hby d2_42) rfl rfl ?_
      refine XS.iloadN X6.here hx rfl (hb hby d2_44) rfl ?_
      exact kt
    obtain ⟨_, _, ⟨T38, L38, k38, n38⟩, -, X38, ⟨Lc38, hQ38, l38, y38, z38⟩, st38⟩ := Jvm.LawKit.callS X6 hx (y := own_m13) hown (mvT hZ (hw _ (own_w 45 rfl))) (mvT hZ (hw _ (own_w 46 rfl))) (mvT hZ (hw _ (own_w 40 rfl))) (mvT hZ (hw _ (own_w 47 rfl))) (by decide) (backOf (W := 1) (rmcofa l Z a0 hw [] b7 (4 : Int32) kb8 (8 : Int32) [(.int (nar .byte ((c0 >>> ((0 : Int32) &&& 31)).toInt8.toInt32))), (.int (nar .byte ((c0 >>> ((8 : Int32) &&& 31)).toInt8.toInt32))), (.int (nar .byte ((c1 >>> ((0 : Int32) &&& 31)).toInt8.toInt32))), (.int (nar .byte ((c1 >>> ((8 : Int32) &&& 31)).toInt8.toInt32))), (.int (nar .byte ((c2 >>> ((0 : Int32) &&& 31)).toInt8.toInt32))), (.int (nar .byte ((c2 >>> ((8 : Int32) &&& 31)).toInt8.toInt32))), (.int (nar .byte ((c3 >>> ((0 : Int32) &&& 31)).toInt8.toInt32))), (.int (nar .byte ((c3 >>> ((8 : Int32) &&& 31)).toInt8.toInt32)))] (.int 0) T6.heap n0 zs15 hv) hZ (hw _ (own_w 47 rfl)) (hw _ (own_w 40 rfl)) (by decide) (by decide)) (g := (mkF m 45 #[.val (.ref a1), .val (.ref a2), .val (.int 0), .val (.int 4), .val .null, .val (.ref b7)] [(.int 4), (.ref b7), (.ref a1)])) rfl (by rw [hml]; rfl) (argsL := [(.ref b7), (.int 4)]) (rest := [(.ref a1)]) (lenOf pd_8 rfl) rfl (by show 2 * 0 + _ ≤ _; exact Nat.le_of_eq rfl) (hb hby d2_45) (fun _ _ => ⟨rfl, rfl, (by decide : 2 + 0 ≤ _), (by decide : 12 + 0 ≤ _)⟩)
    dsimp only [Pt.U, Pt.locs, Pt.cells, Pt.slots] at X38 l38 y38 z38 st38 hQ38
    subst l38 y38 z38
    obtain ⟨rfl, Nq38, eq38⟩ := hQ38
    have N38 := Fr.app N6 Nq38
    have pre39 : own_Go p e below S0 (T38.setTop (mkF m 48 #[.val (.ref a1), .val (.ref a2), .val (.int 0), .val (.int 4), .val .null, .val (.ref b7)] [(.int (own_cofa (4 : Int32) (8 : Int32))), (.ref a1)])) := by
      intro t kt
      refine pre37 t ?_
      refine st38 _ ?_
      show Steps p.tables e below (T38.setTop (mkF m 48 #[.val (.ref a1), .val (.ref a2), .val (.int 0), .val (.int 4), .val .null, .val (.ref b7)] [(.int (own_cofa (4 : Int32) (8 : Int32))), (.ref a1)])) _
      exact kt
    have pre40 : own_Go p e below S0 (T38.setTop (mkF m 48 #[.val (.ref a1), .val (.ref a2), .val (.int 0), .val (.int 4), .val .null, .val (.ref b7)] [(.int 1), (.ref a1)])) := by
      intro t kt
      refine pre39 t ?_
      rw [(by decide : (own_cofa (4 : Int32) (8 : Int32)) = (1 : Int32))]
      exact kt
    have f41 : Fld Z T6.heap a1 "java/lang/String" "coder" "B" (.int 0) := (F2.keep K6 nin0)
    have f42 : Exa Z T6.heap a1 "java/lang/String" := (E1.keep K6)
    obtain ⟨T43, h43, X43, e43, W43, st43⟩ := putFN X38 hx hZ hown (hw _ (own_w 22 rfl)) Via.refl eq38 f41 f42 (Or.inr ⟨(hw _ (own_w 18 rfl)), rfl, hnm⟩) (hw _ (own_w 3 rfl)) (ty := .byte) (v' := (.int 1)) (by decide) rfl (by decide) (g := (mkF m 48 #[.val (.ref a1), .val (.ref a2), .val (.int 0), .val (.int 4), .val .null, .val (.ref b7)] [(.int 1), (.ref a1)])) rfl rfl (hb hby d2_48)
    have N43 := Fr.snoc X43 N38 g1
    have zs44 : n0 ≤ h43.size := Nat.le_trans zs15 (Keep.of_wr W43).1
    have kc45 : Keep h0 h43 [a1] := kc16.wr W43 (Or.inl (List.mem_of_getElem? (i := 0) rfl))
    have fw43 : Fld Z h43 a1 "java/lang/String" "coder" "B" (.int 1) := f41.same W43
    have pre46 : own_Go p e below S0 (T43.setTop (mkF m 54 #[.val (.ref a1), .val (.ref a2), .val (.int 0), .val (.int 4), .val .null, .val (.ref b7)] [(.ref b7), (.ref a1)])) := by
      intro t kt
      refine pre40 t ?_
      refine st43 _ ?_
      refine XS.aloadN X43.here hx rfl (hb hby d2_51) rfl rfl ?_
      refine XS.aload X43.here hx rfl (hb hby d2_52) rfl rfl ?_
      exact kt
    have f47 : Fld Z h43 a1 "java/lang/String" "value" "[B" .null := ((F1.keep K6 nin0).other W43 (Or.inr (slot_ne (Or.inr (hw _ (own_w 17 rfl))) (Or.inr (hw _ (own_w 18 rfl))) (by decide) (t := (.array .byte)) (t' := .byte) (by decide) (by decide))))
    have f48 : Exa Z h43 a1 "java/lang/String" := (f42.wr W43)
    obtain ⟨T49, h49, X49, e49, W49, st49⟩ := putF X43 hx hZ hown (host := "") (Or.inl (hw _ (own_w 21 rfl))) Via.refl e43 f47 f48 (Or.inr ⟨(hw _ (own_w 17 rfl)), rfl, hnm⟩) (hw _ (own_w 3 rfl)) (ty := (.array .byte)) (by decide) rfl rfl (g := (mkF m 54 #[.val (.ref a1), .val (.ref a2), .val (.int 0), .val (.int 4), .val .null, .val (.ref b7)] [(.ref b7), (.ref a1)])) rfl rfl (hb hby d2_54)
    have N49 := Fr.snoc X49 N43 g1
    have zs50 : n0 ≤ h49.size := Nat.le_trans zs44 (Keep.of_wr W49).1
    have kc51 : Keep h0 h49 [a1] := kc45.wr W49 (Or.inl (List.mem_of_getElem? (i := 0) rfl))
    have fw49 : Fld Z h49 a1 "java/lang/String" "value" "[B" (.ref b7) := f47.same W49
    have pre52 : own_Go p e below S0 (T49.setTop (mkF m 57 #[.val (.ref a1), .val (.ref a2), .val (.int 0), .val (.int 4), .val .null, .val (.ref b7)] [])) := by
      intro t kt
      refine pre46 t ?_
      refine st49 _ ?_
      exact kt
    have f53 : Exa Z h49 a1 "java/lang/String" := (f48.wr W49)
    have f54 : Fld Z h49 a1 "java/lang/String" "coder" "B" (.int 1) := (fw43.other W49 (Or.inr (slot_ne (Or.inr (hw _ (own_w 18 rfl))) (Or.inr (hw _ (own_w 17 rfl))) (by decide) (t := .byte) (t' := (.array .byte)) (by decide) (by decide))))
    have f55 : Arv Z h49 b7 kb8 .byte (8 : Int32) [(.int (nar .byte ((c0 >>> ((0 : Int32) &&& 31)).toInt8.toInt32))), (.int (nar .byte ((c0 >>> ((8 : Int32) &&& 31)).toInt8.toInt32))), (.int (nar .byte ((c1 >>> ((0 : Int32) &&& 31)).toInt8.toInt32))), (.int (nar .byte ((c1 >>> ((8 : Int32) &&& 31)).toInt8.toInt32))), (.int (nar .byte ((c2 >>> ((0 : Int32) &&& 31)).toInt8.toInt32))), (.int (nar .byte ((c2 >>> ((8 : Int32) &&& 31)).toInt8.toInt32))), (.int (nar .byte ((c3 >>> ((0 : Int32) &&& 31)).toInt8.toInt32))), (.int (nar .byte ((c3 >>> ((8 : Int32) &&& 31)).toInt8.toInt32)))] (.int 0) := ((hv.other W43 (Ne.symm ne11)).other W49 (Ne.symm ne11))
    obtain ⟨fs, hr, hrun, hended, hW, hsame⟩ := X49.leave (v := none) (fun _ => rfl)
    refine ⟨_, _, fin _ (pre52 _ ?_), hrun, hended, _, _, rfl, ?_, ⟨_, rfl⟩, hW, hsame.mono (by decide) (by decide)⟩
    · exact X49.returnOut hx Bd.returns (hb hby d2_57) hr
    · show Qinit4_4 Z a1 a2 kc c0 c1 c2 c3 wC h0 n0 _ T49.heap _
      rw [e49]
      exact ⟨b7, kb8, rfl, N49, kc51, sz14, ⟨f53, fw49, Or.inr ⟨f54, hl, f55⟩⟩⟩

theorem ef_init1_4 (m : MethodId) (x0 : Addr) (x1 : Addr) : entryFrame m #[(.ref x0), (.ref x1)] 2 = mkF m 0 #[.val (.ref x0), .val (.ref x1)] [] := by first | (simp [entryFrame, mkF, argsToLocals, Value.category]; done) | rfl
def Qinit1_4 (Z : State) (a1 : Addr) (a2 : Addr) (kc : ClassId) (c0 : Int32) (c1 : Int32) (c2 : Int32) (c3 : Int32) (wC : Int32) (h0 : Heap) (n0 : Nat) (v : Option Value) (h : Heap) (L : List Loc) : Prop := ∃ vb : Addr, ∃ kb : ClassId, v = none ∧ Fr n0 L ∧ Keep h0 h [a1] ∧ h0.size ≤ vb ∧ own_Str Z h a1 vb kb [c0, c1, c2, c3]
set_option maxRecDepth 65536 in
set_option maxHeartbeats 40000000 in
theorem rminit1_4 (l : Launch) (Z : State) (a0 : Array Value) (hw : ∀ d ∈ tables_1, d.before a0 Z = true) (ws : List Jvm.Cond) (a1 : Addr) (a2 : Addr) (kc : ClassId) (c0 : Int32) (c1 : Int32) (c2 : Int32) (c3 : Int32) (wC : Int32) (h0 : Heap) (n0 : Nat) (Z0 : n0 ≤ h0.size) (O0 : Old Z n0 h0) (qC : (own_SC Z wC)) (qU : (own_SU Z)) (E1 : Exa Z h0 a1 "java/lang/String") (F1 : Fld Z h0 a1 "java/lang/String" "value" "[B" .null) (F2 : Fld Z h0 a1 "java/lang/String" "coder" "B" (.int 0)) (g1 : n0 ≤ a1) (VC : Arv Z h0 a2 kc .char (4 : Int32) [(.int c0), (.int c1), (.int c2), (.int c3)] (.int 0)) :
    MetFree l own_m3 (head1 (Jvm.Cond.code own_m3 jdk_42_method_3_code 2 none :: ws) (own_r 5 2 12 74)) (fun a U => a = #[(.ref a1), (.ref a2)] ∧ Z.Warmed39 U.vm ∧ U.heap = h0) (fun _ _ _ _ _ => True) (fun _ U o U' => ∃ v L, o = .returned v ∧ Qinit1_4 Z a1 a2 kc c0 c1 c2 c3 wC h0 n0 v U'.heap L ∧ FrameEnd U o U' L (own_r 5 2 12 74).cells (own_r 5 2 12 74).slots) := by
  refine MetFree.of_bodySF (plainFor_of_name pn_1) hisR ?_
  intro p e s m args below meth c s₁ Bd hml0 hP hK
  obtain ⟨rfl, hZ, hh⟩ := hP
  have hx := Bd.exec
  have hby := Bd.bytes
  have hml : c.maxLocals = 2 := hml0
  have hown0 := findClass_of_methodNamed Bd.named
  have hown : s.vm.findClass "java/lang/String" = some m.cls := hown0
  have hnm := (name_of_methodNamed Bd.named Bd.method).1
  have X0 : Stand p l e (own_r 5 2 12 74) s m #[(.ref a1), (.ref a2)] below meth c s₁ [] 0 0 := Stand.of_body Bd
  have e0 : s₁.heap = h0 := by rw [← hh, Bd.state]; rfl
  have N0 := Fr.nil n0
  obtain ⟨S0, hS0⟩ : ∃ z, z = s₁.setTop (entryFrame m #[(.ref a1), (.ref a2)] 2) := ⟨_, rfl⟩
  have pre0 : own_Go p e below S0 (s₁.setTop (mkF m 0 #[.val (.ref a1), .val (.ref a2)] [])) := fun t k => by rw [hS0]; exact castTop (ef_init1_4 m a1 a2) k
  have fin : ∀ t, Steps p.tables e below S0 t → Steps p.tables e below (s₁.setTop (entryFrame m #[(.ref a1), (.ref a2)] 2)) t := fun t k => by rw [hS0] at k; exact k
  have kc0 : Keep h0 h0 [a1] := Keep.refl _ _
  have pre1 : own_Go p e below S0 (s₁.setTop (mkF m 4 #[.val (.ref a1), .val (.ref a2)] [(.ref a2), (.int 0), (.ref a2), (.ref a1)])) := by
    intro t kt
    refine pre0 t ?_
    refine XS.aloadN X0.here hx rfl (hb hby d1_0) rfl rfl ?_
    refine XS.aloadN X0.here hx rfl (hb hby d1_1) rfl rfl ?_
    refine XS.iconst X0.here hx rfl (hb hby d1_2) ?_
    refine XS.aloadN X0.here hx rfl (hb hby d1_3) rfl rfl ?_
    exact kt
  obtain ⟨cl2, Ar2, -, Sz2, Ng2, -, -⟩ := id VC
  have pre3 : own_Go p e below S0 (s₁.setTop (mkF m 6 #[.val (.ref a1), .val (.ref a2)] [.null, (.int 4), (.int 0), (.ref a2), (.ref a1)])) := by
    intro t kt
    refine pre1 t ?_
    refine X0.arraylength hx (by rw [e0]; exact Ar2.1) (State.isArrayOf_alike hZ.alike Ar2.2.1) (g := (mkF m 4 #[.val (.ref a1), .val (.ref a2)] [(.ref a2), (.int 0), (.ref a2), (.ref a1)])) rfl rfl (hb hby d1_4) _ ?_
    rw [len_of Sz2 Ng2]
    show Steps p.tables e below (s₁.setTop (mkF m 5 #[.val (.ref a1), .val (.ref a2)] [(.int 4), (.int 0), (.ref a2), (.ref a1)])) _
    refine XS.aconstNull X0.here hx rfl (hb hby d1_5) ?_
    exact kt
  obtain ⟨_, _, ⟨T4, L4, k4, n4⟩, -, X4, ⟨Lc4, hQ4, l4, y4, z4⟩, st4⟩ := X0.specialBack hx (y := own_m4) rfl hown (mvT hZ (hw _ (own_w 8 rfl))) (mvT hZ (hw _ (own_w 9 rfl))) (mvT hZ (hw _ (own_w 11 rfl))) (by decide) (backOf (W := 0) (rminit4_4 l Z a0 hw [] a1 a2 kc c0 c1 c2 c3 wC h0 n0 Z0 O0 qC qU E1 F1 F2 g1 VC) hZ (hw _ (own_w 11 rfl)) (hw _ (own_w 4 rfl)) (by decide) (by decide)) (g := (mkF m 6 #[.val (.ref a1), .val (.ref a2)] [.null, (.int 4), (.int 0), (.ref a2), (.ref a1)])) rfl (by rw [hml]; rfl) (Steps.refl _) (a := a1) (argsL := [(.ref a2), (.int 0), (.int 4), .null]) (rest := []) (lenOf pd_0 rfl) rfl (by show 2 * 0 + _ ≤ _; exact Nat.le_of_eq rfl) (hb hby d1_6) (fun _ _ => ⟨rfl, e0, (by decide : 0 + 2 ≤ _), (by decide : 0 + 12 ≤ _)⟩)
  dsimp only [Pt.U, Pt.locs, Pt.cells, Pt.slots] at X4 l4 y4 z4 st4 hQ4
  subst l4 y4 z4
  obtain ⟨vb5, kb6, rfl, Nq4, K4, g7, g8⟩ := hQ4
  have N4 := Fr.app N0 Nq4
  have ne9 : a1 ≠ vb5 := Nat.ne_of_lt (Nat.lt_of_lt_of_le E1.lt g7)
  have ne10 : a2 ≠ vb5 := Nat.ne_of_lt (Nat.lt_of_lt_of_le VC.lt g7)
  have ge11 : n0 ≤ vb5 := Nat.le_trans Z0 g7
  have sz12 : h0.size ≤ vb5 := Nat.le_trans kc0.1 g7
  have zs13 : n0 ≤ T4.heap.size := Nat.le_trans Z0 K4.1
  have kc14 : Keep h0 T4.heap [a1] := kc0.trans K4 (allS (Or.inl (List.mem_of_getElem? (i := 0) rfl)) all0)
  have pre15 : own_Go p e below S0 (T4.setTop (mkF m 9 #[.val (.ref a1), .val (.ref a2)] [])) := by
    intro t kt
    refine pre3 t ?_
    refine st4.trans ?_
    show Steps p.tables e below (T4.setTop (mkF m 9 #[.val (.ref a1), .val (.ref a2)] [])) _
    exact kt
  obtain ⟨fs, hr, hrun, hended, hW, hsame⟩ := X4.leave (v := none) (fun _ => rfl)
  refine ⟨_, _, fin _ (pre15 _ ?_), hrun, hended, _, _, rfl, ?_, ⟨_, rfl⟩, hW, hsame.mono (by decide) (by decide)⟩
  · exact X4.returnOut hx Bd.returns (hb hby d1_9) hr
  · show Qinit1_4 Z a1 a2 kc c0 c1 c2 c3 wC h0 n0 _ T4.heap _
    exact ⟨vb5, kb6, rfl, N4, kc14, sz12, g8⟩

theorem d10_0 : decode method_2_code 0 = .ok (.iload_n 0, 1) := by decide +kernel
theorem d10_1 : decode method_2_code 1 = .ok (.istore_n 1, 1) := by decide +kernel
theorem d10_2 : decode method_2_code 2 = .ok (.iload_n 1, 1) := by decide +kernel
theorem d10_3 : decode method_2_code 3 = .ok (.bipush 31, 2) := by decide +kernel
theorem d10_5 : decode method_2_code 5 = .ok (.if_icmp .gt 5, 3) := by decide +kernel
theorem d10_8 : decode method_2_code 8 = .ok (.iconst 1, 1) := by decide +kernel
theorem d10_9 : decode method_2_code 9 = .ok (.ireturn, 1) := by decide +kernel
theorem d10_10 : decode method_2_code 10 = .ok (.iload_n 1, 1) := by decide +kernel
theorem d10_11 : decode method_2_code 11 = .ok (.bipush 127, 2) := by decide +kernel
theorem d10_13 : decode method_2_code 13 = .ok (.if_icmp .lt 12, 3) := by decide +kernel
theorem d10_16 : decode method_2_code 16 = .ok (.iload_n 1, 1) := by decide +kernel
theorem d10_17 : decode method_2_code 17 = .ok (.sipush 159, 3) := by decide +kernel
theorem d10_20 : decode method_2_code 20 = .ok (.if_icmp .gt 5, 3) := by decide +kernel
theorem d10_23 : decode method_2_code 23 = .ok (.iconst 1, 1) := by decide +kernel
theorem d10_24 : decode method_2_code 24 = .ok (.ireturn, 1) := by decide +kernel
theorem d10_25 : decode method_2_code 25 = .ok (.iload_n 1, 1) := by decide +kernel
theorem d10_26 : decode method_2_code 26 = .ok (.sipush 8232, 3) := by decide +kernel
theorem d10_29 : decode method_2_code 29 = .ok (.if_icmp .ne 5, 3) := by decide +kernel
theorem d10_32 : decode method_2_code 32 = .ok (.iconst 1, 1) := by decide +kernel
theorem d10_33 : decode method_2_code 33 = .ok (.ireturn, 1) := by decide +kernel
theorem d10_34 : decode method_2_code 34 = .ok (.iload_n 1, 1) := by decide +kernel
theorem d10_35 : decode method_2_code 35 = .ok (.sipush 8233, 3) := by decide +kernel
theorem d10_38 : decode method_2_code 38 = .ok (.if_icmp .ne 7, 3) := by decide +kernel
theorem d10_41 : decode method_2_code 41 = .ok (.iconst 1, 1) := by decide +kernel
theorem d10_42 : decode method_2_code 42 = .ok (.goto 4, 3) := by decide +kernel
theorem d10_45 : decode method_2_code 45 = .ok (.iconst 0, 1) := by decide +kernel
theorem d10_46 : decode method_2_code 46 = .ok (.ireturn, 1) := by decide +kernel
theorem pn_10 : plainName "com/example/permgrid/permgrid/ControlCharactersAnyInPinLaw" = true := by first | (simp [plainName, overriddenIn]; done) | decide +kernel
theorem ef_10 (m : MethodId) (x0 : Int32) : entryFrame m #[(.int x0)] 2 = mkF m 0 #[.val (.int x0), .unset] [] := by first | (simp [entryFrame, mkF, argsToLocals, Value.category]; done) | rfl
def own_ctl (p1 : Int32) : Int32 := (if (31 : Int32) < p1 then (if p1 < (127 : Int32) then (if p1 = (8232 : Int32) then (1 : Int32) else (if p1 = (8233 : Int32) then (1 : Int32) else (0 : Int32))) else (if (159 : Int32) < p1 then (if p1 = (8232 : Int32) then (1 : Int32) else (if p1 = (8233 : Int32) then (1 : Int32) else (0 : Int32))) else (1 : Int32))) else (1 : Int32))
def Q10 (Z : State) (p1 : Int32) (h0 : Heap) (n0 : Nat) (v : Option Value) (h : Heap) (L : List Loc) : Prop := v = (some (.int (own_ctl p1))) ∧ Fr n0 L ∧ h = h0
set_option maxRecDepth 65536 in
set_option maxHeartbeats 40000000 in
theorem rm10 (l : Launch) (Z : State) (a0 : Array Value) (hw : ∀ d ∈ tables_1, d.before a0 Z = true) (ws : List Jvm.Cond) (p1 : Int32) (h0 : Heap) (n0 : Nat) (Z0 : n0 ≤ h0.size) :
    MetFree l own_m2 (head1 (Jvm.Cond.code own_m2 method_2_code 2 (some .boolean) :: ws) (own_r 0 0 0 0)) (fun a U => a = #[(.int p1)] ∧ Z.Warmed39 U.vm ∧ U.heap = h0) (fun _ _ _ _ _ => True) (fun _ U o U' => ∃ v L, o = .returned v ∧ Q10 Z p1 h0 n0 v U'.heap L ∧ FrameEnd U o U' L (own_r 0 0 0 0).cells (own_r 0 0 0 0).slots) := by
  refine MetFree.of_bodySF (plainFor_of_name pn_10) hisR ?_
  intro p e s m args below meth c s₁ Bd hml0 hP hK
  obtain ⟨rfl, hZ, hh⟩ := hP
  have hx := Bd.exec
  have hby := Bd.bytes
  have hml : c.maxLocals = 2 := hml0
  have hown0 := findClass_of_methodNamed Bd.named
  have hown : s.vm.findClass "com/example/permgrid/permgrid/ControlCharactersAnyInPinLaw" = some m.cls := hown0
  have hnm := (name_of_methodNamed Bd.named Bd.method).1
  have X0 : Stand p l e (own_r 0 0 0 0) s m #[(.int p1)] below meth c s₁ [] 0 0 := Stand.of_body Bd
  have e0 : s₁.heap = h0 := by rw [← hh, Bd.state]; rfl
  have N0 := Fr.nil n0
  obtain ⟨S0, hS0⟩ : ∃ z, z = s₁.setTop (entryFrame m #[(.int p1)] 2) := ⟨_, rfl⟩
  have pre0 : own_Go p e below S0 (s₁.setTop (mkF m 0 #[.val (.int p1), .unset] [])) := fun t k => by rw [hS0]; exact castTop (ef_10 m p1) k
  have fin : ∀ t, Steps p.tables e below S0 t → Steps p.tables e below (s₁.setTop (entryFrame m #[(.int p1)] 2)) t := fun t k => by rw [hS0] at k; exact k
  have pre2 : own_Go p e below S0 (s₁.setTop (mkF m 5 #[.val (.int p1), .val (.int p1)] [(.int 31), (.int p1)])) := by
    intro t kt
    refine pre0 t ?_
    refine XS.iloadN X0.here hx rfl (hb hby d10_0) rfl ?_
    refine XS.istoreN X0.here hx rfl (hb hby d10_1) rfl (l' := #[.val (.int p1), .val (.int p1)]) rfl ?_
    refine XS.iloadN X0.here hx rfl (hb hby d10_2) rfl ?_
    refine XS.bipush X0.here hx rfl (hb hby d10_3) ?_
    exact kt
  by_cases hc1 : (31 : Int32) < p1
  · have pre4 : own_Go p e below S0 (s₁.setTop (mkF m 13 #[.val (.int p1), .val (.int p1)] [(.int 127), (.int p1)])) := by
      intro t kt
      refine pre2 t ?_
      refine XS.icmpYes X0.here hx rfl (pc0 := 5) (pc' := 10) rfl (hb hby d10_5) rfl (tlt hc1).2.2.1 (by decide) (by decide) ?_
      refine XS.iloadN X0.here hx rfl (hb hby d10_10) rfl ?_
      refine XS.bipush X0.here hx rfl (hb hby d10_11) ?_
      exact kt
    by_cases hc3 : p1 < (127 : Int32)
    · have pre6 : own_Go p e below S0 (s₁.setTop (mkF m 29 #[.val (.int p1), .val (.int p1)] [(.int 8232), (.int p1)])) := by
        intro t kt
        refine pre4 t ?_
        refine XS.icmpYes X0.here hx rfl (pc0 := 13) (pc' := 25) rfl (hb hby d10_13) rfl (tlt hc3).1 (by decide) (by decide) ?_
        refine XS.iloadN X0.here hx rfl (hb hby d10_25) rfl ?_
        refine XS.sipush X0.here hx rfl (hb hby d10_26) ?_
        exact kt
      by_cases hc5 : p1 = (8232 : Int32)
      · have pre7 : own_Go p e below S0 (s₁.setTop (mkF m 33 #[.val (.int p1), .val (.int p1)] [(.int 1)])) := by
          intro t kt
          refine pre6 t ?_
          refine XS.icmpNo X0.here hx rfl (hb hby d10_29) rfl (teq hc5).2 ?_
          refine XS.iconst X0.here hx rfl (hb hby d10_32) ?_
          exact kt
        obtain ⟨fs, hr, hrun, hended, hW, hsame⟩ := X0.leave (v := some (.int 1)) (fun h => by rw [Bd.returns] at h; cases h)
        refine ⟨_, _, fin _ (pre7 _ ?_), hrun, hended, _, _, rfl, ?_, ⟨_, rfl⟩, hW, hsame.mono (by decide) (by decide)⟩
        · exact retN X0 hx (t := .boolean) Bd.returns (by simp) (hb hby d10_33) hr
        · show Q10 Z p1 h0 n0 _ s₁.heap _
          rw [e0]
          exact ⟨(by show some _ = some _; rw [own_ctl, if_pos hc1, if_pos hc3, if_pos hc5]), N0, rfl⟩
      · have pre9 : own_Go p e below S0 (s₁.setTop (mkF m 38 #[.val (.int p1), .val (.int p1)] [(.int 8233), (.int p1)])) := by
          intro t kt
          refine pre6 t ?_
          refine XS.icmpYes X0.here hx rfl (pc0 := 29) (pc' := 34) rfl (hb hby d10_29) rfl (feq hc5).2 (by decide) (by decide) ?_
          refine XS.iloadN X0.here hx rfl (hb hby d10_34) rfl ?_
          refine XS.sipush X0.here hx rfl (hb hby d10_35) ?_
          exact kt
        by_cases hc8 : p1 = (8233 : Int32)
        · have pre10 : own_Go p e below S0 (s₁.setTop (mkF m 46 #[.val (.int p1), .val (.int p1)] [(.int 1)])) := by
            intro t kt
            refine pre9 t ?_
            refine XS.icmpNo X0.here hx rfl (hb hby d10_38) rfl (teq hc8).2 ?_
            refine XS.iconst X0.here hx rfl (hb hby d10_41) ?_
            refine XS.goto X0.here hx rfl (pc0 := 42) (pc' := 46) rfl (hb hby d10_42) (by decide) (by decide) ?_
            exact kt
          obtain ⟨fs, hr, hrun, hended, hW, hsame⟩ := X0.leave (v := some (.int 1)) (fun h => by rw [Bd.returns] at h; cases h)
          refine ⟨_, _, fin _ (pre10 _ ?_), hrun, hended, _, _, rfl, ?_, ⟨_, rfl⟩, hW, hsame.mono (by decide) (by decide)⟩
          · exact retN X0 hx (t := .boolean) Bd.returns (by simp) (hb hby d10_46) hr
          · show Q10 Z p1 h0 n0 _ s₁.heap _
            rw [e0]
            exact ⟨(by show some _ = some _; rw [own_ctl, if_pos hc1, if_pos hc3, if_neg hc5, if_pos hc8]), N0, rfl⟩
        · have pre11 : own_Go p e below S0 (s₁.setTop (mkF m 46 #[.val (.int p1), .val (.int p1)] [(.int 0)])) := by
            intro t kt
            refine pre9 t ?_
            refine XS.icmpYes X0.here hx rfl (pc0 := 38) (pc' := 45) rfl (hb hby d10_38) rfl (feq hc8).2 (by decide) (by decide) ?_
            refine XS.iconst X0.here hx rfl (hb hby d10_45) ?_
            exact kt
          obtain ⟨fs, hr, hrun, hended, hW, hsame⟩ := X0.leave (v := some (.int 0)) (fun h => by rw [Bd.returns] at h; cases h)
          refine ⟨_, _, fin _ (pre11 _ ?_), hrun, hended, _, _, rfl, ?_, ⟨_, rfl⟩, hW, hsame.mono (by decide) (by decide)⟩
          · exact retN X0 hx (t := .boolean) Bd.returns (by simp) (hb hby d10_46) hr
          · show Q10 Z p1 h0 n0 _ s₁.heap _
            rw [e0]
            exact ⟨(by show some _ = some _; rw [own_ctl, if_pos hc1, if_pos hc3, if_neg hc5, if_neg hc8]), N0, rfl⟩
    · have pre13 : own_Go p e below S0 (s₁.setTop (mkF m 20 #[.val (.int p1), .val (.int p1)] [(.int 159), (.int p1)])) := by
        intro t kt
        refine pre4 t ?_
        refine XS.icmpNo X0.here hx rfl (hb hby d10_13) rfl (flt hc3).1 ?_
        refine XS.iloadN X0.here hx rfl (hb hby d10_16) rfl ?_
        refine XS.sipush X0.here hx rfl (hb hby d10_17) ?_
        exact kt
      by_cases hc12 : (159 : Int32) < p1
      · have pre15 : own_Go p e below S0 (s₁.setTop (mkF m 29 #[.val (.int p1), .val (.int p1)] [(.int 8232), (.int p1)])) := by
          intro t kt
          refine pre13 t ?_
          refine XS.icmpYes X0.here hx rfl (pc0 := 20) (pc' := 25) rfl (hb hby d10_20) rfl (tlt hc12).2.2.1 (by decide) (by decide) ?_
          refine XS.iloadN X0.here hx rfl (hb hby d10_25) rfl ?_
          refine XS.sipush X0.here hx rfl (hb hby d10_26) ?_
          exact kt
        by_cases hc14 : p1 = (8232 : Int32)
        · have pre16 : own_Go p e below S0 (s₁.setTop (mkF m 33 #[.val (.int p1), .val (.int p1)] [(.int 1)])) := by
            intro t kt
            refine pre15 t ?_
            refine XS.icmpNo X0.here hx rfl (hb hby d10_29) rfl (teq hc14).2 ?_
            refine XS.iconst X0.here hx rfl (hb hby d10_32) ?_
            exact kt
          obtain ⟨fs, hr, hrun, hended, hW, hsame⟩ := X0.leave (v := some (.int 1)) (fun h => by rw [Bd.returns] at h; cases h)
          refine ⟨_, _, fin _ (pre16 _ ?_), hrun, hended, _, _, rfl, ?_, ⟨_, rfl⟩, hW, hsame.mono (by decide) (by decide)⟩
          · exact retN X0 hx (t := .boolean) Bd.returns (by simp) (hb hby d10_33) hr
          · show Q10 Z p1 h0 n0 _ s₁.heap _
            rw [e0]
            exact ⟨(by show some _ = some _; rw [own_ctl, if_pos hc1, if_neg hc3, if_pos hc12, if_pos hc14]), N0, rfl⟩
        · have pre18 : own_Go p e below S0 (s₁.setTop (mkF m 38 #[.val (.int p1), .val (.int p1)] [(.int 8233), (.int p1)])) := by
            intro t kt
            refine pre15 t ?_
            refine XS.icmpYes X0.here hx rfl (pc0 := 29) (pc' := 34) rfl (hb hby d10_29) rfl (feq hc14).2 (by decide) (by decide) ?_
            refine XS.iloadN X0.here hx rfl (hb hby d10_34) rfl ?_
            refine XS.sipush X0.here hx rfl (hb hby d10_35) ?_
            exact kt
          by_cases hc17 : p1 = (8233 : Int32)
          · have pre19 : own_Go p e below S0 (s₁.setTop (mkF m 46 #[.val (.int p1), .val (.int p1)] [(.int 1)])) := by
              intro t kt
              refine pre18 t ?_
              refine XS.icmpNo X0.here hx rfl (hb hby d10_38) rfl (teq hc17).2 ?_
              refine XS.iconst X0.here hx rfl (hb hby d10_41) ?_
              refine XS.goto X0.here hx rfl (pc0 := 42) (pc' := 46) rfl (hb hby d10_42) (by decide) (by decide) ?_
              exact kt
            obtain ⟨fs, hr, hrun, hended, hW, hsame⟩ := X0.leave (v := some (.int 1)) (fun h => by rw [Bd.returns] at h; cases h)
            refine ⟨_, _, fin _ (pre19 _ ?_), hrun, hended, _, _, rfl, ?_, ⟨_, rfl⟩, hW, hsame.mono (by decide) (by decide)⟩
            · exact retN X0 hx (t := .boolean) Bd.returns (by simp) (hb hby d10_46) hr
            · show Q10 Z p1 h0 n0 _ s₁.heap _
              rw [e0]
              exact ⟨(by show some _ = some _; rw [own_ctl, if_pos hc1, if_neg hc3, if_pos hc12, if_neg hc14, if_pos hc17]), N0, rfl⟩
          · have pre20 : own_Go p e below S0 (s₁.setTop (mkF m 46 #[.val (.int p1), .val (.int p1)] [(.int 0)])) := by
              intro t kt
              refine pre18 t ?_
              refine XS.icmpYes X0.here hx rfl (pc0 := 38) (pc' := 45) rfl (hb hby d10_38) rfl (feq hc17).2 (by decide) (by decide) ?_
              refine XS.iconst X0.here hx rfl (hb hby d10_45) ?_
              exact kt
            obtain ⟨fs, hr, hrun, hended, hW, hsame⟩ := X0.leave (v := some (.int 0)) (fun h => by rw [Bd.returns] at h; cases h)
            refine ⟨_, _, fin _ (pre20 _ ?_), hrun, hended, _, _, rfl, ?_, ⟨_, rfl⟩, hW, hsame.mono (by decide) (by decide)⟩
            · exact retN X0 hx (t := .boolean) Bd.returns (by simp) (hb hby d10_46) hr
            · show Q10 Z p1 h0 n0 _ s₁.heap _
              rw [e0]
              exact ⟨(by show some _ = some _; rw [own_ctl, if_pos hc1, if_neg hc3, if_pos hc12, if_neg hc14, if_neg hc17]), N0, rfl⟩
      · have pre21 : own_Go p e below S0 (s₁.setTop (mkF m 24 #[.val (.int p1), .val (.int p1)] [(.int 1)])) := by
          intro t kt
          refine pre13 t ?_
          refine XS.icmpNo X0.here hx rfl (hb hby d10_20) rfl (flt hc12).2.2.1 ?_
          refine XS.iconst X0.here hx rfl (hb hby d10_23) ?_
          exact kt
        obtain ⟨fs, hr, hrun, hended, hW, hsame⟩ := X0.leave (v := some (.int 1)) (fun h => by rw [Bd.returns] at h; cases h)
        refine ⟨_, _, fin _ (pre21 _ ?_), hrun, hended, _, _, rfl, ?_, ⟨_, rfl⟩, hW, hsame.mono (by decide) (by decide)⟩
        · exact retN X0 hx (t := .boolean) Bd.returns (by simp) (hb hby d10_24) hr
        · show Q10 Z p1 h0 n0 _ s₁.heap _
          rw [e0]
          exact ⟨(by show some _ = some _; rw [own_ctl, if_pos hc1, if_neg hc3, if_neg hc12]), N0, rfl⟩
  · have pre22 : own_Go p e below S0 (s₁.setTop (mkF m 9 #[.val (.int p1), .val (.int p1)] [(.int 1)])) := by
      intro t kt
      refine pre2 t ?_
      refine XS.icmpNo X0.here hx rfl (hb hby d10_5) rfl (flt hc1).2.2.1 ?_
      refine XS.iconst X0.here hx rfl (hb hby d10_8) ?_
      exact kt
    obtain ⟨fs, hr, hrun, hended, hW, hsame⟩ := X0.leave (v := some (.int 1)) (fun h => by rw [Bd.returns] at h; cases h)
    refine ⟨_, _, fin _ (pre22 _ ?_), hrun, hended, _, _, rfl, ?_, ⟨_, rfl⟩, hW, hsame.mono (by decide) (by decide)⟩
    · exact retN X0 hx (t := .boolean) Bd.returns (by simp) (hb hby d10_9) hr
    · show Q10 Z p1 h0 n0 _ s₁.heap _
      rw [e0]
      exact ⟨(by show some _ = some _; rw [own_ctl, if_neg hc1]), N0, rfl⟩

theorem d16_0 : decode prog_13_method_2_code 0 = .ok (.iload_n 0, 1) := by decide +kernel
theorem d16_1 : decode prog_13_method_2_code 1 = .ok (.bipush 32, 2) := by decide +kernel
theorem d16_3 : decode prog_13_method_2_code 3 = .ok (.if_icmp .lt 30, 3) := by decide +kernel
theorem d16_6 : decode prog_13_method_2_code 6 = .ok (.iload_n 0, 1) := by decide +kernel
theorem d16_7 : decode prog_13_method_2_code 7 = .ok (.bipush 127, 2) := by decide +kernel
theorem d16_9 : decode prog_13_method_2_code 9 = .ok (.if_icmp .lt 28, 3) := by decide +kernel
theorem d16_12 : decode prog_13_method_2_code 12 = .ok (.iload_n 0, 1) := by decide +kernel
theorem d16_13 : decode prog_13_method_2_code 13 = .ok (.sipush 159, 3) := by decide +kernel
theorem d16_16 : decode prog_13_method_2_code 16 = .ok (.if_icmp .le 17, 3) := by decide +kernel
theorem d16_19 : decode prog_13_method_2_code 19 = .ok (.iload_n 0, 1) := by decide +kernel
theorem d16_20 : decode prog_13_method_2_code 20 = .ok (.sipush 8232, 3) := by decide +kernel
theorem d16_23 : decode prog_13_method_2_code 23 = .ok (.if_icmp .eq 10, 3) := by decide +kernel
theorem d16_26 : decode prog_13_method_2_code 26 = .ok (.iload_n 0, 1) := by decide +kernel
theorem d16_27 : decode prog_13_method_2_code 27 = .ok (.sipush 8233, 3) := by decide +kernel
theorem d16_30 : decode prog_13_method_2_code 30 = .ok (.if_icmp .ne 7, 3) := by decide +kernel
theorem d16_33 : decode prog_13_method_2_code 33 = .ok (.iconst 1, 1) := by decide +kernel
theorem d16_34 : decode prog_13_method_2_code 34 = .ok (.goto 4, 3) := by decide +kernel
theorem d16_37 : decode prog_13_method_2_code 37 = .ok (.iconst 0, 1) := by decide +kernel
theorem d16_38 : decode prog_13_method_2_code 38 = .ok (.ireturn, 1) := by decide +kernel
theorem pn_16 : plainName "com/example/permgrid/permgrid/ControlCharacters" = true := by first | (simp [plainName, overriddenIn]; done) | decide +kernel
theorem ef_16 (m : MethodId) (x0 : Int32) : entryFrame m #[(.int x0)] 1 = mkF m 0 #[.val (.int x0)] [] := by first | (simp [entryFrame, mkF, argsToLocals, Value.category]; done) | rfl
def own_is (p1 : Int32) : Int32 := (if p1 < (32 : Int32) then (1 : Int32) else (if p1 < (127 : Int32) then (0 : Int32) else (if (159 : Int32) < p1 then (if p1 = (8232 : Int32) then (1 : Int32) else (if p1 = (8233 : Int32) then (1 : Int32) else (0 : Int32))) else (1 : Int32))))
def Q16 (Z : State) (p1 : Int32) (h0 : Heap) (n0 : Nat) (v : Option Value) (h : Heap) (L : List Loc) : Prop := v = (some (.int (own_is p1))) ∧ Fr n0 L ∧ h = h0
set_option maxRecDepth 65536 in
set_option maxHeartbeats 40000000 in
theorem rm16 (l : Launch) (Z : State) (a0 : Array Value) (hw : ∀ d ∈ tables_1, d.before a0 Z = true) (ws : List Jvm.Cond) (p1 : Int32) (h0 : Heap) (n0 : Nat) (Z0 : n0 ≤ h0.size) :
    MetFree l own_m1 (head1 (Jvm.Cond.code own_m1 prog_13_method_2_code 1 (some .boolean) :: ws) (own_r 0 0 0 0)) (fun a U => a = #[(.int p1)] ∧ Z.Warmed39 U.vm ∧ U.heap = h0) (fun _ _ _ _ _ => True) (fun _ U o U' => ∃ v L, o = .returned v ∧ Q16 Z p1 h0 n0 v U'.heap L ∧ FrameEnd U o U' L (own_r 0 0 0 0).cells (own_r 0 0 0 0).slots) := by
  refine MetFree.of_bodySF (plainFor_of_name pn_16) hisR ?_
  intro p e s m args below meth c s₁ Bd hml0 hP hK
  obtain ⟨rfl, hZ, hh⟩ := hP
  have hx := Bd.exec
  have hby := Bd.bytes
  have hml : c.maxLocals = 1 := hml0
  have hown0 := findClass_of_methodNamed Bd.named
  have hown : s.vm.findClass "com/example/permgrid/permgrid/ControlCharacters" = some m.cls := hown0
  have hnm := (name_of_methodNamed Bd.named Bd.method).1
  have X0 : Stand p l e (own_r 0 0 0 0) s m #[(.int p1)] below meth c s₁ [] 0 0 := Stand.of_body Bd
  have e0 : s₁.heap = h0 := by rw [← hh, Bd.state]; rfl
  have N0 := Fr.nil n0
  obtain ⟨S0, hS0⟩ : ∃ z, z = s₁.setTop (entryFrame m #[(.int p1)] 1) := ⟨_, rfl⟩
  have pre0 : own_Go p e below S0 (s₁.setTop (mkF m 0 #[.val (.int p1)] [])) := fun t k => by rw [hS0]; exact castTop (ef_16 m p1) k
  have fin : ∀ t, Steps p.tables e below S0 t → Steps p.tables e below (s₁.setTop (entryFrame m #[(.int p1)] 1)) t := fun t k => by rw [hS0] at k; exact k
  have pre2 : own_Go p e below S0 (s₁.setTop (mkF m 3 #[.val (.int p1)] [(.int 32), (.int p1)])) := by
    intro t kt
    refine pre0 t ?_
    refine XS.iloadN X0.here hx rfl (hb hby d16_0) rfl ?_
    refine XS.bipush X0.here hx rfl (hb hby d16_1) ?_
    exact kt
  by_cases hc1 : p1 < (32 : Int32)
  · have pre3 : own_Go p e below S0 (s₁.setTop (mkF m 38 #[.val (.int p1)] [(.int 1)])) := by
      intro t kt
      refine pre2 t ?_
      refine XS.icmpYes X0.here hx rfl (pc0 := 3) (pc' := 33) rfl (hb hby d16_3) rfl (tlt hc1).1 (by decide) (by decide) ?_
      refine XS.iconst X0.here hx rfl (hb hby d16_33) ?_
      refine XS.goto X0.here hx rfl (pc0 := 34) (pc' := 38) rfl (hb hby d16_34) (by decide) (by decide) ?_
      exact kt
    obtain ⟨fs, hr, hrun, hended, hW, hsame⟩ := X0.leave (v := some (.int 1)) (fun h => by rw [Bd.returns] at h; cases h)
    refine ⟨_, _, fin _ (pre3 _ ?_), hrun, hended, _, _, rfl, ?_, ⟨_, rfl⟩, hW, hsame.mono (by decide) (by decide)⟩
    · exact retN X0 hx (t := .boolean) Bd.returns (by simp) (hb hby d16_38) hr
    · show Q16 Z p1 h0 n0 _ s₁.heap _
      rw [e0]
      exact ⟨(by show some _ = some _; rw [own_is, if_pos hc1]), N0, rfl⟩
  · have pre5 : own_Go p e below S0 (s₁.setTop (mkF m 9 #[.val (.int p1)] [(.int 127), (.int p1)])) := by
      intro t kt
      refine pre2 t ?_
      refine XS.icmpNo X0.here hx rfl (hb hby d16_3) rfl (flt hc1).1 ?_
      refine XS.iloadN X0.here hx rfl (hb hby d16_6) rfl ?_
      refine XS.bipush X0.here hx rfl (hb hby d16_7) ?_
      exact kt
    by_cases hc4 : p1 < (127 : Int32)
    · have pre6 : own_Go p e below S0 (s₁.setTop (mkF m 38 #[.val (.int p1)] [(.int 0)])) := by
        intro t kt
        refine pre5 t ?_
        refine XS.icmpYes X0.here hx rfl (pc0 := 9) (pc' := 37) rfl (hb hby d16_9) rfl (tlt hc4).1 (by decide) (by decide) ?_
        refine XS.iconst X0.here hx rfl (hb hby d16_37) ?_
        exact kt
      obtain ⟨fs, hr, hrun, hended, hW, hsame⟩ := X0.leave (v := some (.int 0)) (fun h => by rw [Bd.returns] at h; cases h)
      refine ⟨_, _, fin _ (pre6 _ ?_), hrun, hended, _, _, rfl, ?_, ⟨_, rfl⟩, hW, hsame.mono (by decide) (by decide)⟩
      · exact retN X0 hx (t := .boolean) Bd.returns (by simp) (hb hby d16_38) hr
      · show Q16 Z p1 h0 n0 _ s₁.heap _
        rw [e0]
        exact ⟨(by show some _ = some _; rw [own_is, if_neg hc1, if_pos hc4]), N0, rfl⟩
    · have pre8 : own_Go p e below S0 (s₁.setTop (mkF m 16 #[.val (.int p1)] [(.int 159), (.int p1)])) := by
        intro t kt
        refine pre5 t ?_
        refine XS.icmpNo X0.here hx rfl (hb hby d16_9) rfl (flt hc4).1 ?_
        refine XS.iloadN X0.here hx rfl (hb hby d16_12) rfl ?_
        refine XS.sipush X0.here hx rfl (hb hby d16_13) ?_
        exact kt
      by_cases hc7 : (159 : Int32) < p1
      · have pre10 : own_Go p e below S0 (s₁.setTop (mkF m 23 #[.val (.int p1)] [(.int 8232), (.int p1)])) := by
          intro t kt
          refine pre8 t ?_
          refine XS.icmpNo X0.here hx rfl (hb hby d16_16) rfl (tlt hc7).2.2.2 ?_
          refine XS.iloadN X0.here hx rfl (hb hby d16_19) rfl ?_
          refine XS.sipush X0.here hx rfl (hb hby d16_20) ?_
          exact kt
        by_cases hc9 : p1 = (8232 : Int32)
        · have pre11 : own_Go p e below S0 (s₁.setTop (mkF m 38 #[.val (.int p1)] [(.int 1)])) := by
            intro t kt
            refine pre10 t ?_
            refine XS.icmpYes X0.here hx rfl (pc0 := 23) (pc' := 33) rfl (hb hby d16_23) rfl (teq hc9).1 (by decide) (by decide) ?_
            refine XS.iconst X0.here hx rfl (hb hby d16_33) ?_
            refine XS.goto X0.here hx rfl (pc0 := 34) (pc' := 38) rfl (hb hby d16_34) (by decide) (by decide) ?_
            exact kt
          obtain ⟨fs, hr, hrun, hended, hW, hsame⟩ := X0.leave (v := some (.int 1)) (fun h => by rw [Bd.returns] at h; cases h)
          refine ⟨_, _, fin _ (pre11 _ ?_), hrun, hended, _, _, rfl, ?_, ⟨_, rfl⟩, hW, hsame.mono (by decide) (by decide)⟩
          · exact retN X0 hx (t := .boolean) Bd.returns (by simp) (hb hby d16_38) hr
          · show Q16 Z p1 h0 n0 _ s₁.heap _
            rw [e0]
            exact ⟨(by show some _ = some _; rw [own_is, if_neg hc1, if_neg hc4, if_pos hc7, if_pos hc9]), N0, rfl⟩
        · have pre13 : own_Go p e below S0 (s₁.setTop (mkF m 30 #[.val (.int p1)] [(.int 8233), (.int p1)])) := by
            intro t kt
            refine pre10 t ?_
            refine XS.icmpNo X0.here hx rfl (hb hby d16_23) rfl (feq hc9).1 ?_
            refine XS.iloadN X0.here hx rfl (hb hby d16_26) rfl ?_
            refine XS.sipush X0.here hx rfl (hb hby d16_27) ?_
            exact kt
          by_cases hc12 : p1 = (8233 : Int32)
          · have pre14 : own_Go p e below S0 (s₁.setTop (mkF m 38 #[.val (.int p1)] [(.int 1)])) := by
              intro t kt
              refine pre13 t ?_
              refine XS.icmpNo X0.here hx rfl (hb hby d16_30) rfl (teq hc12).2 ?_
              refine XS.iconst X0.here hx rfl (hb hby d16_33) ?_
              refine XS.goto X0.here hx rfl (pc0 := 34) (pc' := 38) rfl (hb hby d16_34) (by decide) (by decide) ?_
              exact kt
            obtain ⟨fs, hr, hrun, hended, hW, hsame⟩ := X0.leave (v := some (.int 1)) (fun h => by rw [Bd.returns] at h; cases h)
            refine ⟨_, _, fin _ (pre14 _ ?_), hrun, hended, _, _, rfl, ?_, ⟨_, rfl⟩, hW, hsame.mono (by decide) (by decide)⟩
            · exact retN X0 hx (t := .boolean) Bd.returns (by simp) (hb hby d16_38) hr
            · show Q16 Z p1 h0 n0 _ s₁.heap _
              rw [e0]
              exact ⟨(by show some _ = some _; rw [own_is, if_neg hc1, if_neg hc4, if_pos hc7, if_neg hc9, if_pos hc12]), N0, rfl⟩
          · have pre15 : own_Go p e below S0 (s₁.setTop (mkF m 38 #[.val (.int p1)] [(.int 0)])) := by
              intro t kt
              refine pre13 t ?_
              refine XS.icmpYes X0.here hx rfl (pc0 := 30) (pc' := 37) rfl (hb hby d16_30) rfl (feq hc12).2 (by decide) (by decide) ?_
              refine XS.iconst X0.here hx rfl (hb hby d16_37) ?_
              exact kt
            obtain ⟨fs, hr, hrun, hended, hW, hsame⟩ := X0.leave (v := some (.int 0)) (fun h => by rw [Bd.returns] at h; cases h)
            refine ⟨_, _, fin _ (pre15 _ ?_), hrun, hended, _, _, rfl, ?_, ⟨_, rfl⟩, hW, hsame.mono (by decide) (by decide)⟩
            · exact retN X0 hx (t := .boolean) Bd.returns (by simp) (hb hby d16_38) hr
            · show Q16 Z p1 h0 n0 _ s₁.heap _
              rw [e0]
              exact ⟨(by show some _ = some _; rw [own_is, if_neg hc1, if_neg hc4, if_pos hc7, if_neg hc9, if_neg hc12]), N0, rfl⟩
      · have pre16 : own_Go p e below S0 (s₁.setTop (mkF m 38 #[.val (.int p1)] [(.int 1)])) := by
          intro t kt
          refine pre8 t ?_
          refine XS.icmpYes X0.here hx rfl (pc0 := 16) (pc' := 33) rfl (hb hby d16_16) rfl (flt hc7).2.2.2 (by decide) (by decide) ?_
          refine XS.iconst X0.here hx rfl (hb hby d16_33) ?_
          refine XS.goto X0.here hx rfl (pc0 := 34) (pc' := 38) rfl (hb hby d16_34) (by decide) (by decide) ?_
          exact kt
        obtain ⟨fs, hr, hrun, hended, hW, hsame⟩ := X0.leave (v := some (.int 1)) (fun h => by rw [Bd.returns] at h; cases h)
        refine ⟨_, _, fin _ (pre16 _ ?_), hrun, hended, _, _, rfl, ?_, ⟨_, rfl⟩, hW, hsame.mono (by decide) (by decide)⟩
        · exact retN X0 hx (t := .boolean) Bd.returns (by simp) (hb hby d16_38) hr
        · show Q16 Z p1 h0 n0 _ s₁.heap _
          rw [e0]
          exact ⟨(by show some _ = some _; rw [own_is, if_neg hc1, if_neg hc4, if_neg hc7]), N0, rfl⟩

def own_e (p c : Int32) : Int32 := if own_ctl c = (0 : Int32) then p else 1
theorem own_eA {p c : Int32} (h : own_ctl c = (0 : Int32)) : own_e p c = p := if_pos h
theorem own_eB {p c : Int32} (h : ¬ own_ctl c = (0 : Int32)) : own_e p c = 1 := if_neg h
theorem own_same (c : Int32) : own_is c = own_ctl c := by
  have f : ∀ a b : Int32, a = b ↔ a.toInt = b.toInt := fun a b => Int32.toInt_inj.symm
  have g : ∀ a b : Int32, a < b ↔ a.toInt < b.toInt := fun a b => Int32.lt_iff_toInt_lt
  have e : (31 : Int32).toInt = 31 ∧ (32 : Int32).toInt = 32 ∧ (127 : Int32).toInt = 127 ∧ (159 : Int32).toInt = 159 ∧ (8232 : Int32).toInt = 8232 ∧ (8233 : Int32).toInt = 8233 := ⟨rfl, rfl, rfl, rfl, rfl, rfl⟩
  unfold own_is own_ctl
  simp only [f, g, e.1, e.2.1, e.2.2.1, e.2.2.2.1, e.2.2.2.2.1, e.2.2.2.2.2]
  repeat' split
  all_goals first | rfl | omega

theorem d4_0 : decode prog_13_method_3_code 0 = .ok (.iconst 0, 1) := by decide +kernel
theorem d4_1 : decode prog_13_method_3_code 1 = .ok (.istore_n 1, 1) := by decide +kernel
theorem d4_2 : decode prog_13_method_3_code 2 = .ok (.iload_n 1, 1) := by decide +kernel
theorem d4_3 : decode prog_13_method_3_code 3 = .ok (.aload_n 0, 1) := by decide +kernel
theorem d4_4 : decode prog_13_method_3_code 4 = .ok (.invokevirtual 7, 3) := by decide +kernel
theorem d4_7 : decode prog_13_method_3_code 7 = .ok (.if_icmp .ge 22, 3) := by decide +kernel
theorem d4_29 : decode prog_13_method_3_code 29 = .ok (.iconst 0, 1) := by decide +kernel
theorem d4_30 : decode prog_13_method_3_code 30 = .ok (.ireturn, 1) := by decide +kernel
theorem pn_4 : plainName "com/example/permgrid/permgrid/ControlCharacters" = true := by first | (simp [plainName, overriddenIn]; done) | decide +kernel
theorem pd_14 : parseMethodDescriptor "()I" = some ⟨[], some .int⟩ := by decide +kernel
theorem ef_any0 (m : MethodId) (x0 : Addr) : entryFrame m #[(.ref x0)] 2 = mkF m 0 #[.val (.ref x0), .unset] [] := by first | (simp [entryFrame, mkF, argsToLocals, Value.category]; done) | rfl
def Qany0 (Z : State) (a1 : Addr) (wC : Int32) (wF : Value) (vb : Addr) (kb : ClassId) (h0 : Heap) (n0 : Nat) (v : Option Value) (h : Heap) (L : List Loc) : Prop := v = (some (.int 0)) ∧ Fr n0 L ∧ h = h0
set_option maxRecDepth 65536 in
set_option maxHeartbeats 40000000 in
theorem rmany0 (l : Launch) (Z : State) (a0 : Array Value) (hw : ∀ d ∈ tables_1, d.before a0 Z = true) (ws : List Jvm.Cond) (a1 : Addr) (wC : Int32) (wF : Value) (vb : Addr) (kb : ClassId) (h0 : Heap) (n0 : Nat) (Z0 : n0 ≤ h0.size) (O0 : Old Z n0 h0) (qC : (own_SC Z wC)) (qU : (own_SU Z)) (qF : (own_SF Z wF)) (hS : own_Str Z h0 a1 vb kb []) :
    MetFree l own_m0 (head1 (Jvm.Cond.code own_m0 prog_13_method_3_code 2 (some .boolean) :: ws) (own_r 2 0 0 26)) (fun a U => a = #[(.ref a1)] ∧ Z.Warmed39 U.vm ∧ U.heap = h0) (fun _ _ _ _ _ => True) (fun _ U o U' => ∃ v L, o = .returned v ∧ Qany0 Z a1 wC wF vb kb h0 n0 v U'.heap L ∧ FrameEnd U o U' L (own_r 2 0 0 26).cells (own_r 2 0 0 26).slots) := by
  refine MetFree.of_bodySF (plainFor_of_name pn_4) hisR ?_
  intro p e s m args below meth c s₁ Bd hml0 hP hK
  obtain ⟨rfl, hZ, hh⟩ := hP
  have hx := Bd.exec
  have hby := Bd.bytes
  have hml : c.maxLocals = 2 := hml0
  have hown0 := findClass_of_methodNamed Bd.named
  have hown : s.vm.findClass "com/example/permgrid/permgrid/ControlCharacters" = some m.cls := hown0
  have hnm := (name_of_methodNamed Bd.named Bd.method).1
  have X0 : Stand p l e (own_r 2 0 0 26) s m #[(.ref a1)] below meth c s₁ [] 0 0 := Stand.of_body Bd
  have e0 : s₁.heap = h0 := by rw [← hh, Bd.state]; rfl
  have N0 := Fr.nil n0
  obtain ⟨S0, hS0⟩ : ∃ z, z = s₁.setTop (entryFrame m #[(.ref a1)] 2) := ⟨_, rfl⟩
  have pre0 : own_Go p e below S0 (s₁.setTop (mkF m 0 #[.val (.ref a1), .unset] [])) := fun t k => by rw [hS0]; exact castTop (ef_any0 m a1) k
  have fin : ∀ t, Steps p.tables e below S0 t → Steps p.tables e below (s₁.setTop (entryFrame m #[(.ref a1)] 2)) t := fun t k => by rw [hS0] at k; exact k
  have pre1 : own_Go p e below S0 (s₁.setTop (mkF m 4 #[.val (.ref a1), .val (.int 0)] [(.ref a1), (.int 0)])) := by
    intro t kt
    refine pre0 t ?_
    refine XS.iconst X0.here hx rfl (hb hby d4_0) ?_
    refine XS.istoreN X0.here hx rfl (hb hby d4_1) rfl (l' := #[.val (.ref a1), .val (.int 0)]) rfl ?_
    refine XS.iloadN X0.here hx rfl (hb hby d4_2) rfl ?_
    refine XS.aloadN X0.here hx rfl (hb hby d4_3) rfl rfl ?_
    exact kt
  obtain ⟨cq2, kq2, qa2, qb2, qc2⟩ := isOf hZ e0 (hS).1
  obtain ⟨_, _, ⟨T2, L2, k2, n2⟩, -, X2, ⟨Lc2, hQ2, l2, y2, z2⟩, st2⟩ := X0.virtualBack hx (y := own_m9) (z := own_m9) hown (mvT hZ (hw _ (own_w 27 rfl))) (mvT hZ (hw _ (own_w 28 rfl))) (notFace_of_selects (args := #[]) (mvT hZ (hw _ (own_w 30 rfl)))) (mvT hZ (hw _ (own_w 30 rfl))) (mvT hZ (hw _ (own_w 29 rfl))) (by decide) (backOf (W := 1) (rmlength l Z a0 hw [] a1 wC vb kb [] h0 n0 Z0 O0 qC hS (Nat.le_of_ble_eq_true rfl)) hZ (hw _ (own_w 31 rfl)) (hw _ (own_w 4 rfl)) (by decide) (by decide)) qa2 qc2 (g := (mkF m 4 #[.val (.ref a1), .val (.int 0)] [(.ref a1), (.int 0)])) rfl (by rw [hml]; rfl) (Steps.refl _) (argsL := []) (rest := [(.int 0)]) (lenOf pd_14 rfl) rfl (by show 2 * 0 + _ ≤ _; exact Nat.le_of_eq rfl) (hb hby d4_4) (fun _ _ => ⟨rfl, e0, (by decide : 0 + 0 ≤ _), (by decide : 0 + 0 ≤ _)⟩)
  dsimp only [Pt.U, Pt.locs, Pt.cells, Pt.slots] at X2 l2 y2 z2 st2 hQ2
  subst l2 y2 z2
  obtain ⟨rfl, Nq2, eq2⟩ := hQ2
  have N2 := Fr.app N0 Nq2
  have pre3 : own_Go p e below S0 (T2.setTop (mkF m 7 #[.val (.ref a1), .val (.int 0)] [(.int (own_len [])), (.int 0)])) := by
    intro t kt
    refine pre1 t ?_
    refine st2.trans ?_
    show Steps p.tables e below (T2.setTop (mkF m 7 #[.val (.ref a1), .val (.int 0)] [(.int (own_len [])), (.int 0)])) _
    exact kt
  have pre4 : own_Go p e below S0 (T2.setTop (mkF m 7 #[.val (.ref a1), .val (.int 0)] [(.int 0), (.int 0)])) := by
    intro t kt
    refine pre3 t ?_
    rw [(show own_len [] = (0 : Int32) from rfl)]
    exact kt
  have pre5 : own_Go p e below S0 (T2.setTop (mkF m 30 #[.val (.ref a1), .val (.int 0)] [(.int 0)])) := by
    intro t kt
    refine pre4 t ?_
    refine XS.icmpYes X2.here hx rfl (pc0 := 7) (pc' := 29) rfl (hb hby d4_7) rfl (flt (by decide : ¬ ((0 : Int32) < (0 : Int32)))).2.1 (by decide) (by decide) ?_
    refine XS.iconst X2.here hx rfl (hb hby d4_29) ?_
    exact kt
  obtain ⟨fs, hr, hrun, hended, hW, hsame⟩ := X2.leave (v := some (.int 0)) (fun h => by rw [Bd.returns] at h; cases h)
  refine ⟨_, _, fin _ (pre5 _ ?_), hrun, hended, _, _, rfl, ?_, ⟨_, rfl⟩, hW, hsame.mono (by decide) (by decide)⟩
  · exact retN X2 hx (t := .boolean) Bd.returns (by simp) (hb hby d4_30) hr
  · show Qany0 Z a1 wC wF vb kb h0 n0 _ T2.heap _
    rw [eq2]
    exact ⟨rfl, N2, rfl⟩

def own_any1 (c0 : Int32) : Int32 := (if (own_is c0) = (0 : Int32) then (0 : Int32) else (1 : Int32))

theorem d4_10 : decode prog_13_method_3_code 10 = .ok (.aload_n 0, 1) := by decide +kernel
theorem d4_11 : decode prog_13_method_3_code 11 = .ok (.iload_n 1, 1) := by decide +kernel
theorem d4_12 : decode prog_13_method_3_code 12 = .ok (.invokevirtual 13, 3) := by decide +kernel
theorem d4_15 : decode prog_13_method_3_code 15 = .ok (.invokestatic 17, 3) := by decide +kernel
theorem d4_18 : decode prog_13_method_3_code 18 = .ok (.ifCond .eq 5, 3) := by decide +kernel
theorem d4_21 : decode prog_13_method_3_code 21 = .ok (.iconst 1, 1) := by decide +kernel
theorem d4_22 : decode prog_13_method_3_code 22 = .ok (.ireturn, 1) := by decide +kernel
theorem d4_23 : decode prog_13_method_3_code 23 = .ok (.iinc 1 1, 3) := by decide +kernel
theorem d4_26 : decode prog_13_method_3_code 26 = .ok (.goto (-24), 3) := by decide +kernel
theorem pd_15 : parseMethodDescriptor "(I)C" = some ⟨[.int], some .char⟩ := by decide +kernel
theorem pd_16 : parseMethodDescriptor "(C)Z" = some ⟨[.char], some .boolean⟩ := by decide +kernel
theorem ef_any1 (m : MethodId) (x0 : Addr) : entryFrame m #[(.ref x0)] 2 = mkF m 0 #[.val (.ref x0), .unset] [] := by first | (simp [entryFrame, mkF, argsToLocals, Value.category]; done) | rfl
def Qany1 (Z : State) (a1 : Addr) (wC : Int32) (wF : Value) (vb : Addr) (kb : ClassId) (c0 : Int32) (h0 : Heap) (n0 : Nat) (v : Option Value) (h : Heap) (L : List Loc) : Prop := v = (some (.int (own_any1 c0))) ∧ Fr n0 L ∧ h = h0
set_option maxRecDepth 65536 in
set_option maxHeartbeats 40000000 in
theorem rmany1 (l : Launch) (Z : State) (a0 : Array Value) (hw : ∀ d ∈ tables_1, d.before a0 Z = true) (ws : List Jvm.Cond) (a1 : Addr) (wC : Int32) (wF : Value) (vb : Addr) (kb : ClassId) (c0 : Int32) (h0 : Heap) (n0 : Nat) (Z0 : n0 ≤ h0.size) (O0 : Old Z n0 h0) (qC : (own_SC Z wC)) (qU : (own_SU Z)) (qF : (own_SF Z wF)) (hS : own_Str Z h0 a1 vb kb [c0]) :
    MetFree l own_m0 (head1 (Jvm.Cond.code own_m0 prog_13_method_3_code 2 (some .boolean) :: ws) (own_r 5 0 0 66)) (fun a U => a = #[(.ref a1)] ∧ Z.Warmed39 U.vm ∧ U.heap = h0) (fun _ _ _ _ _ => True) (fun _ U o U' => ∃ v L, o = .returned v ∧ Qany1 Z a1 wC wF vb kb c0 h0 n0 v U'.heap L ∧ FrameEnd U o U' L (own_r 5 0 0 66).cells (own_r 5 0 0 66).slots) := by
  refine MetFree.of_bodySF (plainFor_of_name pn_4) hisR ?_
  intro p e s m args below meth c s₁ Bd hml0 hP hK
  obtain ⟨rfl, hZ, hh⟩ := hP
  have hx := Bd.exec
  have hby := Bd.bytes
  have hml : c.maxLocals = 2 := hml0
  have hown0 := findClass_of_methodNamed Bd.named
  have hown : s.vm.findClass "com/example/permgrid/permgrid/ControlCharacters" = some m.cls := hown0
  have hnm := (name_of_methodNamed Bd.named Bd.method).1
  have X0 : Stand p l e (own_r 5 0 0 66) s m #[(.ref a1)] below meth c s₁ [] 0 0 := Stand.of_body Bd
  have e0 : s₁.heap = h0 := by rw [← hh, Bd.state]; rfl
  have N0 := Fr.nil n0
  obtain ⟨S0, hS0⟩ : ∃ z, z = s₁.setTop (entryFrame m #[(.ref a1)] 2) := ⟨_, rfl⟩
  have pre0 : own_Go p e below S0 (s₁.setTop (mkF m 0 #[.val (.ref a1), .unset] [])) := fun t k => by rw [hS0]; exact castTop (ef_any1 m a1) k
  have fin : ∀ t, Steps p.tables e below S0 t → Steps p.tables e below (s₁.setTop (entryFrame m #[(.ref a1)] 2)) t := fun t k => by rw [hS0] at k; exact k
  have pre1 : own_Go p e below S0 (s₁.setTop (mkF m 4 #[.val (.ref a1), .val (.int 0)] [(.ref a1), (.int 0)])) := by
    intro t kt
    refine pre0 t ?_
    refine XS.iconst X0.here hx rfl (hb hby d4_0) ?_
    refine XS.istoreN X0.here hx rfl (hb hby d4_1) rfl (l' := #[.val (.ref a1), .val (.int 0)]) rfl ?_
    refine XS.iloadN X0.here hx rfl (hb hby d4_2) rfl ?_
    refine XS.aloadN X0.here hx rfl (hb hby d4_3) rfl rfl ?_
    exact kt
  obtain ⟨cq2, kq2, qa2, qb2, qc2⟩ := isOf hZ e0 (hS).1
  obtain ⟨_, _, ⟨T2, L2, k2, n2⟩, -, X2, ⟨Lc2, hQ2, l2, y2, z2⟩, st2⟩ := X0.virtualBack hx (y := own_m9) (z := own_m9) hown (mvT hZ (hw _ (own_w 27 rfl))) (mvT hZ (hw _ (own_w 28 rfl))) (notFace_of_selects (args := #[]) (mvT hZ (hw _ (own_w 30 rfl)))) (mvT hZ (hw _ (own_w 30 rfl))) (mvT hZ (hw _ (own_w 29 rfl))) (by decide) (backOf (W := 1) (rmlength l Z a0 hw [] a1 wC vb kb [c0] h0 n0 Z0 O0 qC hS (Nat.le_of_ble_eq_true rfl)) hZ (hw _ (own_w 31 rfl)) (hw _ (own_w 4 rfl)) (by decide) (by decide)) qa2 qc2 (g := (mkF m 4 #[.val (.ref a1), .val (.int 0)] [(.ref a1), (.int 0)])) rfl (by rw [hml]; rfl) (Steps.refl _) (argsL := []) (rest := [(.int 0)]) (lenOf pd_14 rfl) rfl (by show 2 * 0 + _ ≤ _; exact Nat.le_of_eq rfl) (hb hby d4_4) (fun _ _ => ⟨rfl, e0, (by decide : 0 + 0 ≤ _), (by decide : 0 + 0 ≤ _)⟩)
  dsimp only [Pt.U, Pt.locs, Pt.cells, Pt.slots] at X2 l2 y2 z2 st2 hQ2
  subst l2 y2 z2
  obtain ⟨rfl, Nq2, eq2⟩ := hQ2
  have N2 := Fr.app N0 Nq2
  have pre3 : own_Go p e below S0 (T2.setTop (mkF m 7 #[.val (.ref a1), .val (.int 0)] [(.int (own_len [c0])), (.int 0)])) := by
    intro t kt
    refine pre1 t ?_
    refine st2.trans ?_
    show Steps p.tables e below (T2.setTop (mkF m 7 #[.val (.ref a1), .val (.int 0)] [(.int (own_len [c0])), (.int 0)])) _
    exact kt
  have pre4 : own_Go p e below S0 (T2.setTop (mkF m 7 #[.val (.ref a1), .val (.int 0)] [(.int 1), (.int 0)])) := by
    intro t kt
    refine pre3 t ?_
    rw [(show own_len [c0] = (1 : Int32) from rfl)]
    exact kt
  have pre5 : own_Go p e below S0 (T2.setTop (mkF m 12 #[.val (.ref a1), .val (.int 0)] [(.int 0), (.ref a1)])) := by
    intro t kt
    refine pre4 t ?_
    refine XS.icmpNo X2.here hx rfl (hb hby d4_7) rfl (tlt (by decide : (0 : Int32) < (1 : Int32))).2.1 ?_
    refine XS.aloadN X2.here hx rfl (hb hby d4_10) rfl rfl ?_
    refine XS.iloadN X2.here hx rfl (hb hby d4_11) rfl ?_
    exact kt
  obtain ⟨cq6, kq6, qa6, qb6, qc6⟩ := isOf hZ eq2 (hS).1
  obtain ⟨_, _, ⟨T6, L6, k6, n6⟩, -, X6, ⟨Lc6, hQ6, l6, y6, z6⟩, st6⟩ := X2.virtualBack hx (y := own_m5) (z := own_m5) hown (mvT hZ (hw _ (own_w 52 rfl))) (mvT hZ (hw _ (own_w 53 rfl))) (notFace_of_selects (args := #[]) (mvT hZ (hw _ (own_w 55 rfl)))) (mvT hZ (hw _ (own_w 55 rfl))) (mvT hZ (hw _ (own_w 54 rfl))) (by decide) (backOf (W := 0) (rmcharAt l Z a0 hw [] a1 (0 : Int32) wC wF vb kb [c0] c0 h0 n0 Z0 O0 qC qU qF hS (Nat.le_of_ble_eq_true rfl) (by decide) (by decide : (0 : Int32) < (1 : Int32)) rfl) hZ (hw _ (own_w 56 rfl)) (hw _ (own_w 4 rfl)) (by decide) (by decide)) qa6 qc6 (g := (mkF m 12 #[.val (.ref a1), .val (.int 0)] [(.int 0), (.ref a1)])) rfl (by rw [hml]; rfl) (Steps.refl _) (argsL := [(.int 0)]) (rest := []) (lenOf pd_15 rfl) rfl (by show 2 * 0 + _ ≤ _; exact Nat.le_of_eq rfl) (hb hby d4_12) (fun _ _ => ⟨rfl, eq2, (by decide : 0 + 0 ≤ _), (by decide : 0 + 0 ≤ _)⟩)
  dsimp only [Pt.U, Pt.locs, Pt.cells, Pt.slots] at X6 l6 y6 z6 st6 hQ6
  subst l6 y6 z6
  obtain ⟨rfl, Nq6, eq6⟩ := hQ6
  have N6 := Fr.app N2 Nq6
  have pre7 : own_Go p e below S0 (T6.setTop (mkF m 15 #[.val (.ref a1), .val (.int 0)] [(.int c0)])) := by
    intro t kt
    refine pre5 t ?_
    refine st6.trans ?_
    show Steps p.tables e below (T6.setTop (mkF m 15 #[.val (.ref a1), .val (.int 0)] [(.int c0)])) _
    exact kt
  obtain ⟨_, _, ⟨T8, L8, k8, n8⟩, -, X8, ⟨Lc8, hQ8, l8, y8, z8⟩, st8⟩ := Jvm.LawKit.callS X6 hx (y := own_m1) hown (mvT hZ (hw _ (own_w 74 rfl))) (mvT hZ (hw _ (own_w 75 rfl))) (mvT hZ (hw _ (own_w 25 rfl))) (mvT hZ (hw _ (own_w 76 rfl))) (by decide) (backOf (W := 0) (rm16 l Z a0 hw [] c0 h0 n0 Z0 ) hZ (hw _ (own_w 76 rfl)) (hw _ (own_w 25 rfl)) (by decide) (by decide)) (g := (mkF m 15 #[.val (.ref a1), .val (.int 0)] [(.int c0)])) rfl (by rw [hml]; rfl) (argsL := [(.int c0)]) (rest := []) (lenOf pd_16 rfl) rfl (by show 2 * 0 + _ ≤ _; exact Nat.le_of_eq rfl) (hb hby d4_15) (fun _ _ => ⟨rfl, eq6, (by decide : 0 + 0 ≤ _), (by decide : 0 + 0 ≤ _)⟩)
  dsimp only [Pt.U, Pt.locs, Pt.cells, Pt.slots] at X8 l8 y8 z8 st8 hQ8
  subst l8 y8 z8
  obtain ⟨rfl, Nq8, eq8⟩ := hQ8
  have N8 := Fr.app N6 Nq8
  have pre10 : own_Go p e below S0 (T8.setTop (mkF m 18 #[.val (.ref a1), .val (.int 0)] [(.int (own_is c0))])) := by
    intro t kt
    refine pre7 t ?_
    refine st8 _ ?_
    show Steps p.tables e below (T8.setTop (mkF m 18 #[.val (.ref a1), .val (.int 0)] [(.int (own_is c0))])) _
    exact kt
  by_cases hc9 : (own_is c0) = (0 : Int32)
  · have pre11 : own_Go p e below S0 (T8.setTop (mkF m 4 #[.val (.ref a1), .val (.int 1)] [(.ref a1), (.int 1)])) := by
      intro t kt
      refine pre10 t ?_
      refine XS.ifYes X8.here hx rfl (pc0 := 18) (pc' := 23) rfl (hb hby d4_18) rfl ((if0 _ _).trans (teq hc9).1) (by decide) (by decide) ?_
      refine XS.iinc X8.here hx rfl (hb hby d4_23) rfl (l' := #[.val (.ref a1), .val (.int 1)]) rfl ?_
      refine XS.goto X8.here hx rfl (pc0 := 26) (pc' := 2) rfl (hb hby d4_26) (by decide) (by decide) ?_
      refine XS.iloadN X8.here hx rfl (hb hby d4_2) rfl ?_
      refine XS.aloadN X8.here hx rfl (hb hby d4_3) rfl rfl ?_
      exact kt
    obtain ⟨cq12, kq12, qa12, qb12, qc12⟩ := isOf hZ eq8 (hS).1
    obtain ⟨_, _, ⟨T12, L12, k12, n12⟩, -, X12, ⟨Lc12, hQ12, l12, y12, z12⟩, st12⟩ := X8.virtualBack hx (y := own_m9) (z := own_m9) hown (mvT hZ (hw _ (own_w 27 rfl))) (mvT hZ (hw _ (own_w 28 rfl))) (notFace_of_selects (args := #[]) (mvT hZ (hw _ (own_w 30 rfl)))) (mvT hZ (hw _ (own_w 30 rfl))) (mvT hZ (hw _ (own_w 29 rfl))) (by decide) (backOf (W := 1) (rmlength l Z a0 hw [] a1 wC vb kb [c0] h0 n0 Z0 O0 qC hS (Nat.le_of_ble_eq_true rfl)) hZ (hw _ (own_w 31 rfl)) (hw _ (own_w 4 rfl)) (by decide) (by decide)) qa12 qc12 (g := (mkF m 4 #[.val (.ref a1), .val (.int 1)] [(.ref a1), (.int 1)])) rfl (by rw [hml]; rfl) (Steps.refl _) (argsL := []) (rest := [(.int 1)]) (lenOf pd_14 rfl) rfl (by show 2 * 0 + _ ≤ _; exact Nat.le_of_eq rfl) (hb hby d4_4) (fun _ _ => ⟨rfl, eq8, (by decide : 0 + 0 ≤ _), (by decide : 0 + 0 ≤ _)⟩)
    dsimp only [Pt.U, Pt.locs, Pt.cells, Pt.slots] at X12 l12 y12 z12 st12 hQ12
    subst l12 y12 z12
    obtain ⟨rfl, Nq12, eq12⟩ := hQ12
    have N12 := Fr.app N8 Nq12
    have pre13 : own_Go p e below S0 (T12.setTop (mkF m 7 #[.val (.ref a1), .val (.int 1)] [(.int (own_len [c0])), (.int 1)])) := by
      intro t kt
      refine pre11 t ?_
      refine st12.trans ?_
      show Steps p.tables e below (T12.setTop (mkF m 7 #[.val (.ref a1), .val (.int 1)] [(.int (own_len [c0])), (.int 1)])) _
      exact kt
    have pre14 : own_Go p e below S0 (T12.setTop (mkF m 7 #[.val (.ref a1), .val (.int 1)] [(.int 1), (.int 1)])) := by
      intro t kt
      refine pre13 t ?_
      rw [(show own_len [c0] = (1 : Int32) from rfl)]
      exact kt
    have pre15 : own_Go p e below S0 (T12.setTop (mkF m 30 #[.val (.ref a1), .val (.int 1)] [(.int 0)])) := by
      intro t kt
      refine pre14 t ?_
      refine XS.icmpYes X12.here hx rfl (pc0 := 7) (pc' := 29) rfl (hb hby d4_7) rfl (flt (by decide : ¬ ((1 : Int32) < (1 : Int32)))).2.1 (by decide) (by decide) ?_
      refine XS.iconst X12.here hx rfl (hb hby d4_29) ?_
      exact kt
    obtain ⟨fs, hr, hrun, hended, hW, hsame⟩ := X12.leave (v := some (.int 0)) (fun h => by rw [Bd.returns] at h; cases h)
    refine ⟨_, _, fin _ (pre15 _ ?_), hrun, hended, _, _, rfl, ?_, ⟨_, rfl⟩, hW, hsame.mono (by decide) (by decide)⟩
    · exact retN X12 hx (t := .boolean) Bd.returns (by simp) (hb hby d4_30) hr
    · show Qany1 Z a1 wC wF vb kb c0 h0 n0 _ T12.heap _
      rw [eq12]
      exact ⟨(by show some _ = some _; rw [own_any1, if_pos hc9]; first | done | rfl), N12, rfl⟩
  · have pre16 : own_Go p e below S0 (T8.setTop (mkF m 22 #[.val (.ref a1), .val (.int 0)] [(.int 1)])) := by
      intro t kt
      refine pre10 t ?_
      refine XS.ifNo X8.here hx rfl (hb hby d4_18) rfl ((if0 _ _).trans (feq hc9).1) ?_
      refine XS.iconst X8.here hx rfl (hb hby d4_21) ?_
      exact kt
    obtain ⟨fs, hr, hrun, hended, hW, hsame⟩ := X8.leave (v := some (.int 1)) (fun h => by rw [Bd.returns] at h; cases h)
    refine ⟨_, _, fin _ (pre16 _ ?_), hrun, hended, _, _, rfl, ?_, ⟨_, rfl⟩, hW, hsame.mono (by decide) (by decide)⟩
    · exact retN X8 hx (t := .boolean) Bd.returns (by simp) (hb hby d4_22) hr
    · show Qany1 Z a1 wC wF vb kb c0 h0 n0 _ T8.heap _
      rw [eq8]
      exact ⟨(by show some _ = some _; rw [own_any1, if_neg hc9]; first | done | rfl), N8, rfl⟩

theorem own_anyE1 (c0 : Int32) : own_any1 c0 = (own_e (0 : Int32) c0) := by
  unfold own_any1 own_e
  simp only [own_same]
  repeat' split
  all_goals first | rfl | simp_all

def own_any2 (c0 : Int32) (c1 : Int32) : Int32 := (if (own_is c0) = (0 : Int32) then (if (own_is c1) = (0 : Int32) then (0 : Int32) else (1 : Int32)) else (1 : Int32))

theorem ef_any2 (m : MethodId) (x0 : Addr) : entryFrame m #[(.ref x0)] 2 = mkF m 0 #[.val (.ref x0), .unset] [] := by first | (simp [entryFrame, mkF, argsToLocals, Value.category]; done) | rfl
def Qany2 (Z : State) (a1 : Addr) (wC : Int32) (wF : Value) (vb : Addr) (kb : ClassId) (c0 : Int32) (c1 : Int32) (h0 : Heap) (n0 : Nat) (v : Option Value) (h : Heap) (L : List Loc) : Prop := v = (some (.int (own_any2 c0 c1))) ∧ Fr n0 L ∧ h = h0
set_option maxRecDepth 65536 in
set_option maxHeartbeats 40000000 in
theorem rmany2 (l : Launch) (Z : State) (a0 : Array Value) (hw : ∀ d ∈ tables_1, d.before a0 Z = true) (ws : List Jvm.Cond) (a1 : Addr) (wC : Int32) (wF : Value) (vb : Addr) (kb : ClassId) (c0 : Int32) (c1 : Int32) (h0 : Heap) (n0 : Nat) (Z0 : n0 ≤ h0.size) (O0 : Old Z n0 h0) (qC : (own_SC Z wC)) (qU : (own_SU Z)) (qF : (own_SF Z wF)) (hS : own_Str Z h0 a1 vb kb [c0, c1]) :
    MetFree l own_m0 (head1 (Jvm.Cond.code own_m0 prog_13_method_3_code 2 (some .boolean) :: ws) (own_r 5 0 0 66)) (fun a U => a = #[(.ref a1)] ∧ Z.Warmed39 U.vm ∧ U.heap = h0) (fun _ _ _ _ _ => True) (fun _ U o U' => ∃ v L, o = .returned v ∧ Qany2 Z a1 wC wF vb kb c0 c1 h0 n0 v U'.heap L ∧ FrameEnd U o U' L (own_r 5 0 0 66).cells (own_r 5 0 0 66).slots) := by
  refine MetFree.of_bodySF (plainFor_of_name pn_4) hisR ?_
  intro p e s m args below meth c s₁ Bd hml0 hP hK
  obtain ⟨rfl, hZ, hh⟩ := hP
  have hx := Bd.exec
  have hby := Bd.bytes
  have hml : c.maxLocals = 2 := hml0
  have hown0 := findClass_of_methodNamed Bd.named
  have hown : s.vm.findClass "com/example/permgrid/permgrid/ControlCharacters" = some m.cls := hown0
  have hnm := (name_of_methodNamed Bd.named Bd.method).1
  have X0 : Stand p l e (own_r 5 0 0 66) s m #[(.ref a1)] below meth c s₁ [] 0 0 := Stand.of_body Bd
  have e0 : s₁.heap = h0 := by rw [← hh, Bd.state]; rfl
  have N0 := Fr.nil n0
  obtain ⟨S0, hS0⟩ : ∃ z, z = s₁.setTop (entryFrame m #[(.ref a1)] 2) := ⟨_, rfl⟩
  have pre0 : own_Go p e below S0 (s₁.setTop (mkF m 0 #[.val (.ref a1), .unset] [])) := fun t k => by rw [hS0]; exact castTop (ef_any2 m a1) k
  have fin : ∀ t, Steps p.tables e below S0 t → Steps p.tables e below (s₁.setTop (entryFrame m #[(.ref a1)] 2)) t := fun t k => by rw [hS0] at k; exact k
  have pre1 : own_Go p e below S0 (s₁.setTop (mkF m 4 #[.val (.ref a1), .val (.int 0)] [(.ref a1), (.int 0)])) := by
    intro t kt
    refine pre0 t ?_
    refine XS.iconst X0.here hx rfl (hb hby d4_0) ?_
    refine XS.istoreN X0.here hx rfl (hb hby d4_1) rfl (l' := #[.val (.ref a1), .val (.int 0)]) rfl ?_
    refine XS.iloadN X0.here hx rfl (hb hby d4_2) rfl ?_
    refine XS.aloadN X0.here hx rfl (hb hby d4_3) rfl rfl ?_
    exact kt
  obtain ⟨cq2, kq2, qa2, qb2, qc2⟩ := isOf hZ e0 (hS).1
  obtain ⟨_, _, ⟨T2, L2, k2, n2⟩, -, X2, ⟨Lc2, hQ2, l2, y2, z2⟩, st2⟩ := X0.virtualBack hx (y := own_m9) (z := own_m9) hown (mvT hZ (hw _ (own_w 27 rfl))) (mvT hZ (hw _ (own_w 28 rfl))) (notFace_of_selects (args := #[]) (mvT hZ (hw _ (own_w 30 rfl)))) (mvT hZ (hw _ (own_w 30 rfl))) (mvT hZ (hw _ (own_w 29 rfl))) (by decide) (backOf (W := 1) (rmlength l Z a0 hw [] a1 wC vb kb [c0, c1] h0 n0 Z0 O0 qC hS (Nat.le_of_ble_eq_true rfl)) hZ (hw _ (own_w 31 rfl)) (hw _ (own_w 4 rfl)) (by decide) (by decide)) qa2 qc2 (g := (mkF m 4 #[.val (.ref a1), .val (.int 0)] [(.ref a1), (.int 0)])) rfl (by rw [hml]; rfl) (Steps.refl _) (argsL := []) (rest := [(.int 0)]) (lenOf pd_14 rfl) rfl (by show 2 * 0 + _ ≤ _; exact Nat.le_of_eq rfl) (hb hby d4_4) (fun _ _ => ⟨rfl, e0, (by decide : 0 + 0 ≤ _), (by decide : 0 + 0 ≤ _)⟩)
  dsimp only [Pt.U, Pt.locs, Pt.cells, Pt.slots] at X2 l2 y2 z2 st2 hQ2
  subst l2 y2 z2
  obtain ⟨rfl, Nq2, eq2⟩ := hQ2
  have N2 := Fr.app N0 Nq2
  have pre3 : own_Go p e below S0 (T2.setTop (mkF m 7 #[.val (.ref a1), .val (.int 0)] [(.int (own_len [c0, c1])), (.int 0)])) := by
    intro t kt
    refine pre1 t ?_
    refine st2.trans ?_
    show Steps p.tables e below (T2.setTop (mkF m 7 #[.val (.ref a1), .val (.int 0)] [(.int (own_len [c0, c1])), (.int 0)])) _
    exact kt
  have pre4 : own_Go p e below S0 (T2.setTop (mkF m 7 #[.val (.ref a1), .val (.int 0)] [(.int 2), (.int 0)])) := by
    intro t kt
    refine pre3 t ?_
    rw [(show own_len [c0, c1] = (2 : Int32) from rfl)]
    exact kt
  have pre5 : own_Go p e below S0 (T2.setTop (mkF m 12 #[.val (.ref a1), .val (.int 0)] [(.int 0), (.ref a1)])) := by
    intro t kt
    refine pre4 t ?_
    refine XS.icmpNo X2.here hx rfl (hb hby d4_7) rfl (tlt (by decide : (0 : Int32) < (2 : Int32))).2.1 ?_
    refine XS.aloadN X2.here hx rfl (hb hby d4_10) rfl rfl ?_
    refine XS.iloadN X2.here hx rfl (hb hby d4_11) rfl ?_
    exact kt
  obtain ⟨cq6, kq6, qa6, qb6, qc6⟩ := isOf hZ eq2 (hS).1
  obtain ⟨_, _, ⟨T6, L6, k6, n6⟩, -, X6, ⟨Lc6, hQ6, l6, y6, z6⟩, st6⟩ := X2.virtualBack hx (y := own_m5) (z := own_m5) hown (mvT hZ (hw _ (own_w 52 rfl))) (mvT hZ (hw _ (own_w 53 rfl))) (notFace_of_selects (args := #[]) (mvT hZ (hw _ (own_w 55 rfl)))) (mvT hZ (hw _ (own_w 55 rfl))) (mvT hZ (hw _ (own_w 54 rfl))) (by decide) (backOf (W := 0) (rmcharAt l Z a0 hw [] a1 (0 : Int32) wC wF vb kb [c0, c1] c0 h0 n0 Z0 O0 qC qU qF hS (Nat.le_of_ble_eq_true rfl) (by decide) (by decide : (0 : Int32) < (2 : Int32)) rfl) hZ (hw _ (own_w 56 rfl)) (hw _ (own_w 4 rfl)) (by decide) (by decide)) qa6 qc6 (g := (mkF m 12 #[.val (.ref a1), .val (.int 0)] [(.int 0), (.ref a1)])) rfl (by rw [hml]; rfl) (Steps.refl _) (argsL := [(.int 0)]) (rest := []) (lenOf pd_15 rfl) rfl (by show 2 * 0 + _ ≤ _; exact Nat.le_of_eq rfl) (hb hby d4_12) (fun _ _ => ⟨rfl, eq2, (by decide : 0 + 0 ≤ _), (by decide : 0 + 0 ≤ _)⟩)
  dsimp only [Pt.U, Pt.locs, Pt.cells, Pt.slots] at X6 l6 y6 z6 st6 hQ6
  subst l6 y6 z6
  obtain ⟨rfl, Nq6, eq6⟩ := hQ6
  have N6 := Fr.app N2 Nq6
  have pre7 : own_Go p e below S0 (T6.setTop (mkF m 15 #[.val (.ref a1), .val (.int 0)] [(.int c0)])) := by
    intro t kt
    refine pre5 t ?_
    refine st6.trans ?_
    show Steps p.tables e below (T6.setTop (mkF m 15 #[.val (.ref a1), .val (.int 0)] [(.int c0)])) _
    exact kt
  obtain ⟨_, _, ⟨T8, L8, k8, n8⟩, -, X8, ⟨Lc8, hQ8, l8, y8, z8⟩, st8⟩ := Jvm.LawKit.callS X6 hx (y := own_m1) hown (mvT hZ (hw _ (own_w 74 rfl))) (mvT hZ (hw _ (own_w 75 rfl))) (mvT hZ (hw _ (own_w 25 rfl))) (mvT hZ (hw _ (own_w 76 rfl))) (by decide) (backOf (W := 0) (rm16 l Z a0 hw [] c0 h0 n0 Z0 ) hZ (hw _ (own_w 76 rfl)) (hw _ (own_w 25 rfl)) (by decide) (by decide)) (g := (mkF m 15 #[.val (.ref a1), .val (.int 0)] [(.int c0)])) rfl (by rw [hml]; rfl) (argsL := [(.int c0)]) (rest := []) (lenOf pd_16 rfl) rfl (by show 2 * 0 + _ ≤ _; exact Nat.le_of_eq rfl) (hb hby d4_15) (fun _ _ => ⟨rfl, eq6, (by decide : 0 + 0 ≤ _), (by decide : 0 + 0 ≤ _)⟩)
  dsimp only [Pt.U, Pt.locs, Pt.cells, Pt.slots] at X8 l8 y8 z8 st8 hQ8
  subst l8 y8 z8
  obtain ⟨rfl, Nq8, eq8⟩ := hQ8
  have N8 := Fr.app N6 Nq8
  have pre10 : own_Go p e below S0 (T8.setTop (mkF m 18 #[.val (.ref a1), .val (.int 0)] [(.int (own_is c0))])) := by
    intro t kt
    refine pre7 t ?_
    refine st8 _ ?_
    show Steps p.tables e below (T8.setTop (mkF m 18 #[.val (.ref a1), .val (.int 0)] [(.int (own_is c0))])) _
    exact kt
  by_cases hc9 : (own_is c0) = (0 : Int32)
  · have pre11 : own_Go p e below S0 (T8.setTop (mkF m 4 #[.val (.ref a1), .val (.int 1)] [(.ref a1), (.int 1)])) := by
      intro t kt
      refine pre10 t ?_
      refine XS.ifYes X8.here hx rfl (pc0 := 18) (pc' := 23) rfl (hb hby d4_18) rfl ((if0 _ _).trans (teq hc9).1) (by decide) (by decide) ?_
      refine XS.iinc X8.here hx rfl (hb hby d4_23) rfl (l' := #[.val (.ref a1), .val (.int 1)]) rfl ?_
      refine XS.goto X8.here hx rfl (pc0 := 26) (pc' := 2) rfl (hb hby d4_26) (by decide) (by decide) ?_
      refine XS.iloadN X8.here hx rfl (hb hby d4_2) rfl ?_
      refine XS.aloadN X8.here hx rfl (hb hby d4_3) rfl rfl ?_
      exact kt
    obtain ⟨cq12, kq12, qa12, qb12, qc12⟩ := isOf hZ eq8 (hS).1
    obtain ⟨_, _, ⟨T12, L12, k12, n12⟩, -, X12, ⟨Lc12, hQ12, l12, y12, z12⟩, st12⟩ := X8.virtualBack hx (y := own_m9) (z := own_m9) hown (mvT hZ (hw _ (own_w 27 rfl))) (mvT hZ (hw _ (own_w 28 rfl))) (notFace_of_selects (args := #[]) (mvT hZ (hw _ (own_w 30 rfl)))) (mvT hZ (hw _ (own_w 30 rfl))) (mvT hZ (hw _ (own_w 29 rfl))) (by decide) (backOf (W := 1) (rmlength l Z a0 hw [] a1 wC vb kb [c0, c1] h0 n0 Z0 O0 qC hS (Nat.le_of_ble_eq_true rfl)) hZ (hw _ (own_w 31 rfl)) (hw _ (own_w 4 rfl)) (by decide) (by decide)) qa12 qc12 (g := (mkF m 4 #[.val (.ref a1), .val (.int 1)] [(.ref a1), (.int 1)])) rfl (by rw [hml]; rfl) (Steps.refl _) (argsL := []) (rest := [(.int 1)]) (lenOf pd_14 rfl) rfl (by show 2 * 0 + _ ≤ _; exact Nat.le_of_eq rfl) (hb hby d4_4) (fun _ _ => ⟨rfl, eq8, (by decide : 0 + 0 ≤ _), (by decide : 0 + 0 ≤ _)⟩)
    dsimp only [Pt.U, Pt.locs, Pt.cells, Pt.slots] at X12 l12 y12 z12 st12 hQ12
    subst l12 y12 z12
    obtain ⟨rfl, Nq12, eq12⟩ := hQ12
    have N12 := Fr.app N8 Nq12
    have pre13 : own_Go p e below S0 (T12.setTop (mkF m 7 #[.val (.ref a1), .val (.int 1)] [(.int (own_len [c0, c1])), (.int 1)])) := by
      intro t kt
      refine pre11 t ?_
      refine st12.trans ?_
      show Steps p.tables e below (T12.setTop (mkF m 7 #[.val (.ref a1), .val (.int 1)] [(.int (own_len [c0, c1])), (.int 1)])) _
      exact kt
    have pre14 : own_Go p e below S0 (T12.setTop (mkF m 7 #[.val (.ref a1), .val (.int 1)] [(.int 2), (.int 1)])) := by
      intro t kt
      refine pre13 t ?_
      rw [(show own_len [c0, c1] = (2 : Int32) from rfl)]
      exact kt
    have pre15 : own_Go p e below S0 (T12.setTop (mkF m 12 #[.val (.ref a1), .val (.int 1)] [(.int 1), (.ref a1)])) := by
      intro t kt
      refine pre14 t ?_
      refine XS.icmpNo X12.here hx rfl (hb hby d4_7) rfl (tlt (by decide : (1 : Int32) < (2 : Int32))).2.1 ?_
      refine XS.aloadN X12.here hx rfl (hb hby d4_10) rfl rfl ?_
      refine XS.iloadN X12.here hx rfl (hb hby d4_11) rfl ?_
      exact kt
    obtain ⟨cq16, kq16, qa16, qb16, qc16⟩ := isOf hZ eq12 (hS).1
    obtain ⟨_, _, ⟨T16, L16, k16, n16⟩, -, X16, ⟨Lc16, hQ16, l16, y16, z16⟩, st16⟩ := X12.virtualBack hx (y := own_m5) (z := own_m5) hown (mvT hZ (hw _ (own_w 52 rfl))) (mvT hZ (hw _ (own_w 53 rfl))) (notFace_of_selects (args := #[]) (mvT hZ (hw _ (own_w 55 rfl)))) (mvT hZ (hw _ (own_w 55 rfl))) (mvT hZ (hw _ (own_w 54 rfl))) (by decide) (backOf (W := 0) (rmcharAt l Z a0 hw [] a1 (1 : Int32) wC wF vb kb [c0, c1] c1 h0 n0 Z0 O0 qC qU qF hS (Nat.le_of_ble_eq_true rfl) (by decide) (by decide : (1 : Int32) < (2 : Int32)) rfl) hZ (hw _ (own_w 56 rfl)) (hw _ (own_w 4 rfl)) (by decide) (by decide)) qa16 qc16 (g := (mkF m 12 #[.val (.ref a1), .val (.int 1)] [(.int 1), (.ref a1)])) rfl (by rw [hml]; rfl) (Steps.refl _) (argsL := [(.int 1)]) (rest := []) (lenOf pd_15 rfl) rfl (by show 2 * 0 + _ ≤ _; exact Nat.le_of_eq rfl) (hb hby d4_12) (fun _ _ => ⟨rfl, eq12, (by decide : 0 + 0 ≤ _), (by decide : 0 + 0 ≤ _)⟩)
    dsimp only [Pt.U, Pt.locs, Pt.cells, Pt.slots] at X16 l16 y16 z16 st16 hQ16
    subst l16 y16 z16
    obtain ⟨rfl, Nq16, eq16⟩ := hQ16
    have N16 := Fr.app N12 Nq16
    have pre17 : own_Go p e below S0 (T16.setTop (mkF m 15 #[.val (.ref a1), .val (.int 1)] [(.int c1)])) := by
      intro t kt
      refine pre15 t ?_
      refine st16.trans ?_
      show Steps p.tables e below (T16.setTop (mkF m 15 #[.val (.ref a1), .val (.int 1)] [(.int c1)])) _
      exact kt
    obtain ⟨_, _, ⟨T18, L18, k18, n18⟩, -, X18, ⟨Lc18, hQ18, l18, y18, z18⟩, st18⟩ := Jvm.LawKit.callS X16 hx (y := own_m1) hown (mvT hZ (hw _ (own_w 74 rfl))) (mvT hZ (hw _ (own_w 75 rfl))) (mvT hZ (hw _ (own_w 25 rfl))) (mvT hZ (hw _ (own_w 76 rfl))) (by decide) (backOf (W := 0) (rm16 l Z a0 hw [] c1 h0 n0 Z0 ) hZ (hw _ (own_w 76 rfl)) (hw _ (own_w 25 rfl)) (by decide) (by decide)) (g := (mkF m 15 #[.val (.ref a1), .val (.int 1)] [(.int c1)])) rfl (by rw [hml]; rfl) (argsL := [(.int c1)]) (rest := []) (lenOf pd_16 rfl) rfl (by show 2 * 0 + _ ≤ _; exact Nat.le_of_eq rfl) (hb hby d4_15) (fun _ _ => ⟨rfl, eq16, (by decide : 0 + 0 ≤ _), (by decide : 0 + 0 ≤ _)⟩)
    dsimp only [Pt.U, Pt.locs, Pt.cells, Pt.slots] at X18 l18 y18 z18 st18 hQ18
    subst l18 y18 z18
    obtain ⟨rfl, Nq18, eq18⟩ := hQ18
    have N18 := Fr.app N16 Nq18
    have pre20 : own_Go p e below S0 (T18.setTop (mkF m 18 #[.val (.ref a1), .val (.int 1)] [(.int (own_is c1))])) := by
      intro t kt
      refine pre17 t ?_
      refine st18 _ ?_
      show Steps p.tables e below (T18.setTop (mkF m 18 #[.val (.ref a1), .val (.int 1)] [(.int (own_is c1))])) _
      exact kt
    by_cases hc19 : (own_is c1) = (0 : Int32)
    · have pre21 : own_Go p e below S0 (T18.setTop (mkF m 4 #[.val (.ref a1), .val (.int 2)] [(.ref a1), (.int 2)])) := by
        intro t kt
        refine pre20 t ?_
        refine XS.ifYes X18.here hx rfl (pc0 := 18) (pc' := 23) rfl (hb hby d4_18) rfl ((if0 _ _).trans (teq hc19).1) (by decide) (by decide) ?_
        refine XS.iinc X18.here hx rfl (hb hby d4_23) rfl (l' := #[.val (.ref a1), .val (.int 2)]) rfl ?_
        refine XS.goto X18.here hx rfl (pc0 := 26) (pc' := 2) rfl (hb hby d4_26) (by decide) (by decide) ?_
        refine XS.iloadN X18.here hx rfl (hb hby d4_2) rfl ?_
        refine XS.aloadN X18.here hx rfl (hb hby d4_3) rfl rfl ?_
        exact kt
      obtain ⟨cq22, kq22, qa22, qb22, qc22⟩ := isOf hZ eq18 (hS).1
      obtain ⟨_, _, ⟨T22, L22, k22, n22⟩, -, X22, ⟨Lc22, hQ22, l22, y22, z22⟩, st22⟩ := X18.virtualBack hx (y := own_m9) (z := own_m9) hown (mvT hZ (hw _ (own_w 27 rfl))) (mvT hZ (hw _ (own_w 28 rfl))) (notFace_of_selects (args := #[]) (mvT hZ (hw _ (own_w 30 rfl)))) (mvT hZ (hw _ (own_w 30 rfl))) (mvT hZ (hw _ (own_w 29 rfl))) (by decide) (backOf (W := 1) (rmlength l Z a0 hw [] a1 wC vb kb [c0, c1] h0 n0 Z0 O0 qC hS (Nat.le_of_ble_eq_true rfl)) hZ (hw _ (own_w 31 rfl)) (hw _ (own_w 4 rfl)) (by decide) (by decide)) qa22 qc22 (g := (mkF m 4 #[.val (.ref a1), .val (.int 2)] [(.ref a1), (.int 2)])) rfl (by rw [hml]; rfl) (Steps.refl _) (argsL := []) (rest := [(.int 2)]) (lenOf pd_14 rfl) rfl (by show 2 * 0 + _ ≤ _; exact Nat.le_of_eq rfl) (hb hby d4_4) (fun _ _ => ⟨rfl, eq18, (by decide : 0 + 0 ≤ _), (by decide : 0 + 0 ≤ _)⟩)
      dsimp only [Pt.U, Pt.locs, Pt.cells, Pt.slots] at X22 l22 y22 z22 st22 hQ22
      subst l22 y22 z22
      obtain ⟨rfl, Nq22, eq22⟩ := hQ22
      have N22 := Fr.app N18 Nq22
      have pre23 : own_Go p e below S0 (T22.setTop (mkF m 7 #[.val (.ref a1), .val (.int 2)] [(.int (own_len [c0, c1])), (.int 2)])) := by
        intro t kt
        refine pre21 t ?_
        refine st22.trans ?_
        show Steps p.tables e below (T22.setTop (mkF m 7 #[.val (.ref a1), .val (.int 2)] [(.int (own_len [c0, c1])), (.int 2)])) _
        exact kt
      have pre24 : own_Go p e below S0 (T22.setTop (mkF m 7 #[.val (.ref a1), .val (.int 2)] [(.int 2), (.int 2)])) := by
        intro t kt
        refine pre23 t ?_
        rw [(show own_len [c0, c1] = (2 : Int32) from rfl)]
        exact kt
      have pre25 : own_Go p e below S0 (T22.setTop (mkF m 30 #[.val (.ref a1), .val (.int 2)] [(.int 0)])) := by
        intro t kt
        refine pre24 t ?_
        refine XS.icmpYes X22.here hx rfl (pc0 := 7) (pc' := 29) rfl (hb hby d4_7) rfl (flt (by decide : ¬ ((2 : Int32) < (2 : Int32)))).2.1 (by decide) (by decide) ?_
        refine XS.iconst X22.here hx rfl (hb hby d4_29) ?_
        exact kt
      obtain ⟨fs, hr, hrun, hended, hW, hsame⟩ := X22.leave (v := some (.int 0)) (fun h => by rw [Bd.returns] at h; cases h)
      refine ⟨_, _, fin _ (pre25 _ ?_), hrun, hended, _, _, rfl, ?_, ⟨_, rfl⟩, hW, hsame.mono (by decide) (by decide)⟩
      · exact retN X22 hx (t := .boolean) Bd.returns (by simp) (hb hby d4_30) hr
      · show Qany2 Z a1 wC wF vb kb c0 c1 h0 n0 _ T22.heap _
        rw [eq22]
        exact ⟨(by show some _ = some _; rw [own_any2, if_pos hc9, if_pos hc19]; first | done | rfl), N22, rfl⟩
    · have pre26 : own_Go p e below S0 (T18.setTop (mkF m 22 #[.val (.ref a1), .val (.int 1)] [(.int 1)])) := by
        intro t kt
        refine pre20 t ?_
        refine XS.ifNo X18.here hx rfl (hb hby d4_18) rfl ((if0 _ _).trans (feq hc19).1) ?_
        refine XS.iconst X18.here hx rfl (hb hby d4_21) ?_
        exact kt
      obtain ⟨fs, hr, hrun, hended, hW, hsame⟩ := X18.leave (v := some (.int 1)) (fun h => by rw [Bd.returns] at h; cases h)
      refine ⟨_, _, fin _ (pre26 _ ?_), hrun, hended, _, _, rfl, ?_, ⟨_, rfl⟩, hW, hsame.mono (by decide) (by decide)⟩
      · exact retN X18 hx (t := .boolean) Bd.returns (by simp) (hb hby d4_22) hr
      · show Qany2 Z a1 wC wF vb kb c0 c1 h0 n0 _ T18.heap _
        rw [eq18]
        exact ⟨(by show some _ = some _; rw [own_any2, if_pos hc9, if_neg hc19]; first | done | rfl), N18, rfl⟩
  · have pre27 : own_Go p e below S0 (T8.setTop (mkF m 22 #[.val (.ref a1), .val (.int 0)] [(.int 1)])) := by
      intro t kt
      refine pre10 t ?_
      refine XS.ifNo X8.here hx rfl (hb hby d4_18) rfl ((if0 _ _).trans (feq hc9).1) ?_
      refine XS.iconst X8.here hx rfl (hb hby d4_21) ?_
      exact kt
    obtain ⟨fs, hr, hrun, hended, hW, hsame⟩ := X8.leave (v := some (.int 1)) (fun h => by rw [Bd.returns] at h; cases h)
    refine ⟨_, _, fin _ (pre27 _ ?_), hrun, hended, _, _, rfl, ?_, ⟨_, rfl⟩, hW, hsame.mono (by decide) (by decide)⟩
    · exact retN X8 hx (t := .boolean) Bd.returns (by simp) (hb hby d4_22) hr
    · show Qany2 Z a1 wC wF vb kb c0 c1 h0 n0 _ T8.heap _
      rw [eq8]
      exact ⟨(by show some _ = some _; rw [own_any2, if_neg hc9]; first | done | rfl), N8, rfl⟩

theorem own_anyE2 (c0 : Int32) (c1 : Int32) : own_any2 c0 c1 = (own_e (own_e (0 : Int32) c0) c1) := by
  unfold own_any2 own_e
  simp only [own_same]
  repeat' split
  all_goals first | rfl | simp_all

def own_any3 (c0 : Int32) (c1 : Int32) (c2 : Int32) : Int32 := (if (own_is c0) = (0 : Int32) then (if (own_is c1) = (0 : Int32) then (if (own_is c2) = (0 : Int32) then (0 : Int32) else (1 : Int32)) else (1 : Int32)) else (1 : Int32))

theorem ef_any3 (m : MethodId) (x0 : Addr) : entryFrame m #[(.ref x0)] 2 = mkF m 0 #[.val (.ref x0), .unset] [] := by first | (simp [entryFrame, mkF, argsToLocals, Value.category]; done) | rfl
def Qany3 (Z : State) (a1 : Addr) (wC : Int32) (wF : Value) (vb : Addr) (kb : ClassId) (c0 : Int32) (c1 : Int32) (c2 : Int32) (h0 : Heap) (n0 : Nat) (v : Option Value) (h : Heap) (L : List Loc) : Prop := v = (some (.int (own_any3 c0 c1 c2))) ∧ Fr n0 L ∧ h = h0
set_option maxRecDepth 65536 in
set_option maxHeartbeats 40000000 in
theorem rmany3 (l : Launch) (Z : State) (a0 : Array Value) (hw : ∀ d ∈ tables_1, d.before a0 Z = true) (ws : List Jvm.Cond) (a1 : Addr) (wC : Int32) (wF : Value) (vb : Addr) (kb : ClassId) (c0 : Int32) (c1 : Int32) (c2 : Int32) (h0 : Heap) (n0 : Nat) (Z0 : n0 ≤ h0.size) (O0 : Old Z n0 h0) (qC : (own_SC Z wC)) (qU : (own_SU Z)) (qF : (own_SF Z wF)) (hS : own_Str Z h0 a1 vb kb [c0, c1, c2]) :
    MetFree l own_m0 (head1 (Jvm.Cond.code own_m0 prog_13_method_3_code 2 (some .boolean) :: ws) (own_r 5 0 0 66)) (fun a U => a = #[(.ref a1)] ∧ Z.Warmed39 U.vm ∧ U.heap = h0) (fun _ _ _ _ _ => True) (fun _ U o U' => ∃ v L, o = .returned v ∧ Qany3 Z a1 wC wF vb kb c0 c1 c2 h0 n0 v U'.heap L ∧ FrameEnd U o U' L (own_r 5 0 0 66).cells (own_r 5 0 0 66).slots) := by
  refine MetFree.of_bodySF (plainFor_of_name pn_4) hisR ?_
  intro p e s m args below meth c s₁ Bd hml0 hP hK
  obtain ⟨rfl, hZ, hh⟩ := hP
  have hx := Bd.exec
  have hby := Bd.bytes
  have hml : c.maxLocals = 2 := hml0
  have hown0 := findClass_of_methodNamed Bd.named
  have hown : s.vm.findClass "com/example/permgrid/permgrid/ControlCharacters" = some m.cls := hown0
  have hnm := (name_of_methodNamed Bd.named Bd.method).1
  have X0 : Stand p l e (own_r 5 0 0 66) s m #[(.ref a1)] below meth c s₁ [] 0 0 := Stand.of_body Bd
  have e0 : s₁.heap = h0 := by rw [← hh, Bd.state]; rfl
  have N0 := Fr.nil n0
  obtain ⟨S0, hS0⟩ : ∃ z, z = s₁.setTop (entryFrame m #[(.ref a1)] 2) := ⟨_, rfl⟩
  have pre0 : own_Go p e below S0 (s₁.setTop (mkF m 0 #[.val (.ref a1), .unset] [])) := fun t k => by rw [hS0]; exact castTop (ef_any3 m a1) k
  have fin : ∀ t, Steps p.tables e below S0 t → Steps p.tables e below (s₁.setTop (entryFrame m #[(.ref a1)] 2)) t := fun t k => by rw [hS0] at k; exact k
  have pre1 : own_Go p e below S0 (s₁.setTop (mkF m 4 #[.val (.ref a1), .val (.int 0)] [(.ref a1), (.int 0)])) := by
    intro t kt
    refine pre0 t ?_
    refine XS.iconst X0.here hx rfl (hb hby d4_0) ?_
    refine XS.istoreN X0.here hx rfl (hb hby d4_1) rfl (l' := #[.val (.ref a1), .val (.int 0)]) rfl ?_
    refine XS.iloadN X0.here hx rfl (hb hby d4_2) rfl ?_
    refine XS.aloadN X0.here hx rfl (hb hby d4_3) rfl rfl ?_
    exact kt
  obtain ⟨cq2, kq2, qa2, qb2, qc2⟩ := isOf hZ e0 (hS).1
  obtain ⟨_, _, ⟨T2, L2, k2, n2⟩, -, X2, ⟨Lc2, hQ2, l2, y2, z2⟩, st2⟩ := X0.virtualBack hx (y := own_m9) (z := own_m9) hown (mvT hZ (hw _ (own_w 27 rfl))) (mvT hZ (hw _ (own_w 28 rfl))) (notFace_of_selects (args := #[]) (mvT hZ (hw _ (own_w 30 rfl)))) (mvT hZ (hw _ (own_w 30 rfl))) (mvT hZ (hw _ (own_w 29 rfl))) (by decide) (backOf (W := 1) (rmlength l Z a0 hw [] a1 wC vb kb [c0, c1, c2] h0 n0 Z0 O0 qC hS (Nat.le_of_ble_eq_true rfl)) hZ (hw _ (own_w 31 rfl)) (hw _ (own_w 4 rfl)) (by decide) (by decide)) qa2 qc2 (g := (mkF m 4 #[.val (.ref a1), .val (.int 0)] [(.ref a1), (.int 0)])) rfl (by rw [hml]; rfl) (Steps.refl _) (argsL := []) (rest := [(.int 0)]) (lenOf pd_14 rfl) rfl (by show 2 * 0 + _ ≤ _; exact Nat.le_of_eq rfl) (hb hby d4_4) (fun _ _ => ⟨rfl, e0, (by decide : 0 + 0 ≤ _), (by decide : 0 + 0 ≤ _)⟩)
  dsimp only [Pt.U, Pt.locs, Pt.cells, Pt.slots] at X2 l2 y2 z2 st2 hQ2
  subst l2 y2 z2
  obtain ⟨rfl, Nq2, eq2⟩ := hQ2
  have N2 := Fr.app N0 Nq2
  have pre3 : own_Go p e below S0 (T2.setTop (mkF m 7 #[.val (.ref a1), .val (.int 0)] [(.int (own_len [c0, c1, c2])), (.int 0)])) := by
    intro t kt
    refine pre1 t ?_
    refine st2.trans ?_
    show Steps p.tables e below (T2.setTop (mkF m 7 #[.val (.ref a1), .val (.int 0)] [(.int (own_len [c0, c1, c2])), (.int 0)])) _
    exact kt
  have pre4 : own_Go p e below S0 (T2.setTop (mkF m 7 #[.val (.ref a1), .val (.int 0)] [(.int 3), (.int 0)])) := by
    intro t kt
    refine pre3 t ?_
    rw [(show own_len [c0, c1, c2] = (3 : Int32) from rfl)]
    exact kt
  have pre5 : own_Go p e below S0 (T2.setTop (mkF m 12 #[.val (.ref a1), .val (.int 0)] [(.int 0), (.ref a1)])) := by
    intro t kt
    refine pre4 t ?_
    refine XS.icmpNo X2.here hx rfl (hb hby d4_7) rfl (tlt (by decide : (0 : Int32) < (3 : Int32))).2.1 ?_
    refine XS.aloadN X2.here hx rfl (hb hby d4_10) rfl rfl ?_
    refine XS.iloadN X2.here hx rfl (hb hby d4_11) rfl ?_
    exact kt
  obtain ⟨cq6, kq6, qa6, qb6, qc6⟩ := isOf hZ eq2 (hS).1
  obtain ⟨_, _, ⟨T6, L6, k6, n6⟩, -, X6, ⟨Lc6, hQ6, l6, y6, z6⟩, st6⟩ := X2.virtualBack hx (y := own_m5) (z := own_m5) hown (mvT hZ (hw _ (own_w 52 rfl))) (mvT hZ (hw _ (own_w 53 rfl))) (notFace_of_selects (args := #[]) (mvT hZ (hw _ (own_w 55 rfl)))) (mvT hZ (hw _ (own_w 55 rfl))) (mvT hZ (hw _ (own_w 54 rfl))) (by decide) (backOf (W := 0) (rmcharAt l Z a0 hw [] a1 (0 : Int32) wC wF vb kb [c0, c1, c2] c0 h0 n0 Z0 O0 qC qU qF hS (Nat.le_of_ble_eq_true rfl) (by decide) (by decide : (0 : Int32) < (3 : Int32)) rfl) hZ (hw _ (own_w 56 rfl)) (hw _ (own_w 4 rfl)) (by decide) (by decide)) qa6 qc6 (g := (mkF m 12 #[.val (.ref a1), .val (.int 0)] [(.int 0), (.ref a1)])) rfl (by rw [hml]; rfl) (Steps.refl _) (argsL := [(.int 0)]) (rest := []) (lenOf pd_15 rfl) rfl (by show 2 * 0 + _ ≤ _; exact Nat.le_of_eq rfl) (hb hby d4_12) (fun _ _ => ⟨rfl, eq2, (by decide : 0 + 0 ≤ _), (by decide : 0 + 0 ≤ _)⟩)
  dsimp only [Pt.U, Pt.locs, Pt.cells, Pt.slots] at X6 l6 y6 z6 st6 hQ6
  subst l6 y6 z6
  obtain ⟨rfl, Nq6, eq6⟩ := hQ6
  have N6 := Fr.app N2 Nq6
  have pre7 : own_Go p e below S0 (T6.setTop (mkF m 15 #[.val (.ref a1), .val (.int 0)] [(.int c0)])) := by
    intro t kt
    refine pre5 t ?_
    refine st6.trans ?_
    show Steps p.tables e below (T6.setTop (mkF m 15 #[.val (.ref a1), .val (.int 0)] [(.int c0)])) _
    exact kt
  obtain ⟨_, _, ⟨T8, L8, k8, n8⟩, -, X8, ⟨Lc8, hQ8, l8, y8, z8⟩, st8⟩ := Jvm.LawKit.callS X6 hx (y := own_m1) hown (mvT hZ (hw _ (own_w 74 rfl))) (mvT hZ (hw _ (own_w 75 rfl))) (mvT hZ (hw _ (own_w 25 rfl))) (mvT hZ (hw _ (own_w 76 rfl))) (by decide) (backOf (W := 0) (rm16 l Z a0 hw [] c0 h0 n0 Z0 ) hZ (hw _ (own_w 76 rfl)) (hw _ (own_w 25 rfl)) (by decide) (by decide)) (g := (mkF m 15 #[.val (.ref a1), .val (.int 0)] [(.int c0)])) rfl (by rw [hml]; rfl) (argsL := [(.int c0)]) (rest := []) (lenOf pd_16 rfl) rfl (by show 2 * 0 + _ ≤ _; exact Nat.le_of_eq rfl) (hb hby d4_15) (fun _ _ => ⟨rfl, eq6, (by decide : 0 + 0 ≤ _), (by decide : 0 + 0 ≤ _)⟩)
  dsimp only [Pt.U, Pt.locs, Pt.cells, Pt.slots] at X8 l8 y8 z8 st8 hQ8
  subst l8 y8 z8
  obtain ⟨rfl, Nq8, eq8⟩ := hQ8
  have N8 := Fr.app N6 Nq8
  have pre10 : own_Go p e below S0 (T8.setTop (mkF m 18 #[.val (.ref a1), .val (.int 0)] [(.int (own_is c0))])) := by
    intro t kt
    refine pre7 t ?_
    refine st8 _ ?_
    show Steps p.tables e below (T8.setTop (mkF m 18 #[.val (.ref a1), .val (.int 0)] [(.int (own_is c0))])) _
    exact kt
  by_cases hc9 : (own_is c0) = (0 : Int32)
  · have pre11 : own_Go p e below S0 (T8.setTop (mkF m 4 #[.val (.ref a1), .val (.int 1)] [(.ref a1), (.int 1)])) := by
      intro t kt
      refine pre10 t ?_
      refine XS.ifYes X8.here hx rfl (pc0 := 18) (pc' := 23) rfl (hb hby d4_18) rfl ((if0 _ _).trans (teq hc9).1) (by decide) (by decide) ?_
      refine XS.iinc X8.here hx rfl (hb hby d4_23) rfl (l' := #[.val (.ref a1), .val (.int 1)]) rfl ?_
      refine XS.goto X8.here hx rfl (pc0 := 26) (pc' := 2) rfl (hb hby d4_26) (by decide) (by decide) ?_
      refine XS.iloadN X8.here hx rfl (hb hby d4_2) rfl ?_
      refine XS.aloadN X8.here hx rfl (hb hby d4_3) rfl rfl ?_
      exact kt
    obtain ⟨cq12, kq12, qa12, qb12, qc12⟩ := isOf hZ eq8 (hS).1
    obtain ⟨_, _, ⟨T12, L12, k12, n12⟩, -, X12, ⟨Lc12, hQ12, l12, y12, z12⟩, st12⟩ := X8.virtualBack hx (y := own_m9) (z := own_m9) hown (mvT hZ (hw _ (own_w 27 rfl))) (mvT hZ (hw _ (own_w 28 rfl))) (notFace_of_selects (args := #[]) (mvT hZ (hw _ (own_w 30 rfl)))) (mvT hZ (hw _ (own_w 30 rfl))) (mvT hZ (hw _ (own_w 29 rfl))) (by decide) (backOf (W := 1) (rmlength l Z a0 hw [] a1 wC vb kb [c0, c1, c2] h0 n0 Z0 O0 qC hS (Nat.le_of_ble_eq_true rfl)) hZ (hw _ (own_w 31 rfl)) (hw _ (own_w 4 rfl)) (by decide) (by decide)) qa12 qc12 (g := (mkF m 4 #[.val (.ref a1), .val (.int 1)] [(.ref a1), (.int 1)])) rfl (by rw [hml]; rfl) (Steps.refl _) (argsL := []) (rest := [(.int 1)]) (lenOf pd_14 rfl) rfl (by show 2 * 0 + _ ≤ _; exact Nat.le_of_eq rfl) (hb hby d4_4) (fun _ _ => ⟨rfl, eq8, (by decide : 0 + 0 ≤ _), (by decide : 0 + 0 ≤ _)⟩)
    dsimp only [Pt.U, Pt.locs, Pt.cells, Pt.slots] at X12 l12 y12 z12 st12 hQ12
    subst l12 y12 z12
    obtain ⟨rfl, Nq12, eq12⟩ := hQ12
    have N12 := Fr.app N8 Nq12
    have pre13 : own_Go p e below S0 (T12.setTop (mkF m 7 #[.val (.ref a1), .val (.int 1)] [(.int (own_len [c0, c1, c2])), (.int 1)])) := by
      intro t kt
      refine pre11 t ?_
      refine st12.trans ?_
      show Steps p.tables e below (T12.setTop (mkF m 7 #[.val (.ref a1), .val (.int 1)] [(.int (own_len [c0, c1, c2])), (.int 1)])) _
      exact kt
    have pre14 : own_Go p e below S0 (T12.setTop (mkF m 7 #[.val (.ref a1), .val (.int 1)] [(.int 3), (.int 1)])) := by
      intro t kt
      refine pre13 t ?_
      rw [(show own_len [c0, c1, c2] = (3 : Int32) from rfl)]
      exact kt
    have pre15 : own_Go p e below S0 (T12.setTop (mkF m 12 #[.val (.ref a1), .val (.int 1)] [(.int 1), (.ref a1)])) := by
      intro t kt
      refine pre14 t ?_
      refine XS.icmpNo X12.here hx rfl (hb hby d4_7) rfl (tlt (by decide : (1 : Int32) < (3 : Int32))).2.1 ?_
      refine XS.aloadN X12.here hx rfl (hb hby d4_10) rfl rfl ?_
      refine XS.iloadN X12.here hx rfl (hb hby d4_11) rfl ?_
      exact kt
    obtain ⟨cq16, kq16, qa16, qb16, qc16⟩ := isOf hZ eq12 (hS).1
    obtain ⟨_, _, ⟨T16, L16, k16, n16⟩, -, X16, ⟨Lc16, hQ16, l16, y16, z16⟩, st16⟩ := X12.virtualBack hx (y := own_m5) (z := own_m5) hown (mvT hZ (hw _ (own_w 52 rfl))) (mvT hZ (hw _ (own_w 53 rfl))) (notFace_of_selects (args := #[]) (mvT hZ (hw _ (own_w 55 rfl)))) (mvT hZ (hw _ (own_w 55 rfl))) (mvT hZ (hw _ (own_w 54 rfl))) (by decide) (backOf (W := 0) (rmcharAt l Z a0 hw [] a1 (1 : Int32) wC wF vb kb [c0, c1, c2] c1 h0 n0 Z0 O0 qC qU qF hS (Nat.le_of_ble_eq_true rfl) (by decide) (by decide : (1 : Int32) < (3 : Int32)) rfl) hZ (hw _ (own_w 56 rfl)) (hw _ (own_w 4 rfl)) (by decide) (by decide)) qa16 qc16 (g := (mkF m 12 #[.val (.ref a1), .val (.int 1)] [(.int 1), (.ref a1)])) rfl (by rw [hml]; rfl) (Steps.refl _) (argsL := [(.int 1)]) (rest := []) (lenOf pd_15 rfl) rfl (by show 2 * 0 + _ ≤ _; exact Nat.le_of_eq rfl) (hb hby d4_12) (fun _ _ => ⟨rfl, eq12, (by decide : 0 + 0 ≤ _), (by decide : 0 + 0 ≤ _)⟩)
    dsimp only [Pt.U, Pt.locs, Pt.cells, Pt.slots] at X16 l16 y16 z16 st16 hQ16
    subst l16 y16 z16
    obtain ⟨rfl, Nq16, eq16⟩ := hQ16
    have N16 := Fr.app N12 Nq16
    have pre17 : own_Go p e below S0 (T16.setTop (mkF m 15 #[.val (.ref a1), .val (.int 1)] [(.int c1)])) := by
      intro t kt
      refine pre15 t ?_
      refine st16.trans ?_
      show Steps p.tables e below (T16.setTop (mkF m 15 #[.val (.ref a1), .val (.int 1)] [(.int c1)])) _
      exact kt
    obtain ⟨_, _, ⟨T18, L18, k18, n18⟩, -, X18, ⟨Lc18, hQ18, l18, y18, z18⟩, st18⟩ := Jvm.LawKit.callS X16 hx (y := own_m1) hown (mvT hZ (hw _ (own_w 74 rfl))) (mvT hZ (hw _ (own_w 75 rfl))) (mvT hZ (hw _ (own_w 25 rfl))) (mvT hZ (hw _ (own_w 76 rfl))) (by decide) (backOf (W := 0) (rm16 l Z a0 hw [] c1 h0 n0 Z0 ) hZ (hw _ (own_w 76 rfl)) (hw _ (own_w 25 rfl)) (by decide) (by decide)) (g := (mkF m 15 #[.val (.ref a1), .val (.int 1)] [(.int c1)])) rfl (by rw [hml]; rfl) (argsL := [(.int c1)]) (rest := []) (lenOf pd_16 rfl) rfl (by show 2 * 0 + _ ≤ _; exact Nat.le_of_eq rfl) (hb hby d4_15) (fun _ _ => ⟨rfl, eq16, (by decide : 0 + 0 ≤ _), (by decide : 0 + 0 ≤ _)⟩)
    dsimp only [Pt.U, Pt.locs, Pt.cells, Pt.slots] at X18 l18 y18 z18 st18 hQ18
    subst l18 y18 z18
    obtain ⟨rfl, Nq18, eq18⟩ := hQ18
    have N18 := Fr.app N16 Nq18
    have pre20 : own_Go p e below S0 (T18.setTop (mkF m 18 #[.val (.ref a1), .val (.int 1)] [(.int (own_is c1))])) := by
      intro t kt
      refine pre17 t ?_
      refine st18 _ ?_
      show Steps p.tables e below (T18.setTop (mkF m 18 #[.val (.ref a1), .val (.int 1)] [(.int (own_is c1))])) _
      exact kt
    by_cases hc19 : (own_is c1) = (0 : Int32)
    · have pre21 : own_Go p e below S0 (T18.setTop (mkF m 4 #[.val (.ref a1), .val (.int 2)] [(.ref a1), (.int 2)])) := by
        intro t kt
        refine pre20 t ?_
        refine XS.ifYes X18.here hx rfl (pc0 := 18) (pc' := 23) rfl (hb hby d4_18) rfl ((if0 _ _).trans (teq hc19).1) (by decide) (by decide) ?_
        refine XS.iinc X18.here hx rfl (hb hby d4_23) rfl (l' := #[.val (.ref a1), .val (.int 2)]) rfl ?_
        refine XS.goto X18.here hx rfl (pc0 := 26) (pc' := 2) rfl (hb hby d4_26) (by decide) (by decide) ?_
        refine XS.iloadN X18.here hx rfl (hb hby d4_2) rfl ?_
        refine XS.aloadN X18.here hx rfl (hb hby d4_3) rfl rfl ?_
        exact kt
      obtain ⟨cq22, kq22, qa22, qb22, qc22⟩ := isOf hZ eq18 (hS).1
      obtain ⟨_, _, ⟨T22, L22, k22, n22⟩, -, X22, ⟨Lc22, hQ22, l22, y22, z22⟩, st22⟩ := X18.virtualBack hx (y := own_m9) (z := own_m9) hown (mvT hZ (hw _ (own_w 27 rfl))) (mvT hZ (hw _ (own_w 28 rfl))) (notFace_of_selects (args := #[]) (mvT hZ (hw _ (own_w 30 rfl)))) (mvT hZ (hw _ (own_w 30 rfl))) (mvT hZ (hw _ (own_w 29 rfl))) (by decide) (backOf (W := 1) (rmlength l Z a0 hw [] a1 wC vb kb [c0, c1, c2] h0 n0 Z0 O0 qC hS (Nat.le_of_ble_eq_true rfl)) hZ (hw _ (own_w 31 rfl)) (hw _ (own_w 4 rfl)) (by decide) (by decide)) qa22 qc22 (g := (mkF m 4 #[.val (.ref a1), .val (.int 2)] [(.ref a1), (.int 2)])) rfl (by rw [hml]; rfl) (Steps.refl _) (argsL := []) (rest := [(.int 2)]) (lenOf pd_14 rfl) rfl (by show 2 * 0 + _ ≤ _; exact Nat.le_of_eq rfl) (hb hby d4_4) (fun _ _ => ⟨rfl, eq18, (by decide : 0 + 0 ≤ _), (by decide : 0 + 0 ≤ _)⟩)
      dsimp only [Pt.U, Pt.locs, Pt.cells, Pt.slots] at X22 l22 y22 z22 st22 hQ22
      subst l22 y22 z22
      obtain ⟨rfl, Nq22, eq22⟩ := hQ22
      have N22 := Fr.app N18 Nq22
      have pre23 : own_Go p e below S0 (T22.setTop (mkF m 7 #[.val (.ref a1), .val (.int 2)] [(.int (own_len [c0, c1, c2])), (.int 2)])) := by
        intro t kt
        refine pre21 t ?_
        refine st22.trans ?_
        show Steps p.tables e below (T22.setTop (mkF m 7 #[.val (.ref a1), .val (.int 2)] [(.int (own_len [c0, c1, c2])), (.int 2)])) _
        exact kt
      have pre24 : own_Go p e below S0 (T22.setTop (mkF m 7 #[.val (.ref a1), .val (.int 2)] [(.int 3), (.int 2)])) := by
        intro t kt
        refine pre23 t ?_
        rw [(show own_len [c0, c1, c2] = (3 : Int32) from rfl)]
        exact kt
      have pre25 : own_Go p e below S0 (T22.setTop (mkF m 12 #[.val (.ref a1), .val (.int 2)] [(.int 2), (.ref a1)])) := by
        intro t kt
        refine pre24 t ?_
        refine XS.icmpNo X22.here hx rfl (hb hby d4_7) rfl (tlt (by decide : (2 : Int32) < (3 : Int32))).2.1 ?_
        refine XS.aloadN X22.here hx rfl (hb hby d4_10) rfl rfl ?_
        refine XS.iloadN X22.here hx rfl (hb hby d4_11) rfl ?_
        exact kt
      obtain ⟨cq26, kq26, qa26, qb26, qc26⟩ := isOf hZ eq22 (hS).1
      obtain ⟨_, _, ⟨T26, L26, k26, n26⟩, -, X26, ⟨Lc26, hQ26, l26, y26, z26⟩, st26⟩ := X22.virtualBack hx (y := own_m5) (z := own_m5) hown (mvT hZ (hw _ (own_w 52 rfl))) (mvT hZ (hw _ (own_w 53 rfl))) (notFace_of_selects (args := #[]) (mvT hZ (hw _ (own_w 55 rfl)))) (mvT hZ (hw _ (own_w 55 rfl))) (mvT hZ (hw _ (own_w 54 rfl))) (by decide) (backOf (W := 0) (rmcharAt l Z a0 hw [] a1 (2 : Int32) wC wF vb kb [c0, c1, c2] c2 h0 n0 Z0 O0 qC qU qF hS (Nat.le_of_ble_eq_true rfl) (by decide) (by decide : (2 : Int32) < (3 : Int32)) rfl) hZ (hw _ (own_w 56 rfl)) (hw _ (own_w 4 rfl)) (by decide) (by decide)) qa26 qc26 (g := (mkF m 12 #[.val (.ref a1), .val (.int 2)] [(.int 2), (.ref a1)])) rfl (by rw [hml]; rfl) (Steps.refl _) (argsL := [(.int 2)]) (rest := []) (lenOf pd_15 rfl) rfl (by show 2 * 0 + _ ≤ _; exact Nat.le_of_eq rfl) (hb hby d4_12) (fun _ _ => ⟨rfl, eq22, (by decide : 0 + 0 ≤ _), (by decide : 0 + 0 ≤ _)⟩)
      dsimp only [Pt.U, Pt.locs, Pt.cells, Pt.slots] at X26 l26 y26 z26 st26 hQ26
      subst l26 y26 z26
      obtain ⟨rfl, Nq26, eq26⟩ := hQ26
      have N26 := Fr.app N22 Nq26
      have pre27 : own_Go p e below S0 (T26.setTop (mkF m 15 #[.val (.ref a1), .val (.int 2)] [(.int c2)])) := by
        intro t kt
        refine pre25 t ?_
        refine st26.trans ?_
        show Steps p.tables e below (T26.setTop (mkF m 15 #[.val (.ref a1), .val (.int 2)] [(.int c2)])) _
        exact kt
      obtain ⟨_, _, ⟨T28, L28, k28, n28⟩, -, X28, ⟨Lc28, hQ28, l28, y28, z28⟩, st28⟩ := Jvm.LawKit.callS X26 hx (y := own_m1) hown (mvT hZ (hw _ (own_w 74 rfl))) (mvT hZ (hw _ (own_w 75 rfl))) (mvT hZ (hw _ (own_w 25 rfl))) (mvT hZ (hw _ (own_w 76 rfl))) (by decide) (backOf (W := 0) (rm16 l Z a0 hw [] c2 h0 n0 Z0 ) hZ (hw _ (own_w 76 rfl)) (hw _ (own_w 25 rfl)) (by decide) (by decide)) (g := (mkF m 15 #[.val (.ref a1), .val (.int 2)] [(.int c2)])) rfl (by rw [hml]; rfl) (argsL := [(.int c2)]) (rest := []) (lenOf pd_16 rfl) rfl (by show 2 * 0 + _ ≤ _; exact Nat.le_of_eq rfl) (hb hby d4_15) (fun _ _ => ⟨rfl, eq26, (by decide : 0 + 0 ≤ _), (by decide : 0 + 0 ≤ _)⟩)
      dsimp only [Pt.U, Pt.locs, Pt.cells, Pt.slots] at X28 l28 y28 z28 st28 hQ28
      subst l28 y28 z28
      obtain ⟨rfl, Nq28, eq28⟩ := hQ28
      have N28 := Fr.app N26 Nq28
      have pre30 : own_Go p e below S0 (T28.setTop (mkF m 18 #[.val (.ref a1), .val (.int 2)] [(.int (own_is c2))])) := by
        intro t kt
        refine pre27 t ?_
        refine st28 _ ?_
        show Steps p.tables e below (T28.setTop (mkF m 18 #[.val (.ref a1), .val (.int 2)] [(.int (own_is c2))])) _
        exact kt
      by_cases hc29 : (own_is c2) = (0 : Int32)
      · have pre31 : own_Go p e below S0 (T28.setTop (mkF m 4 #[.val (.ref a1), .val (.int 3)] [(.ref a1), (.int 3)])) := by
          intro t kt
          refine pre30 t ?_
          refine XS.ifYes X28.here hx rfl (pc0 := 18) (pc' := 23) rfl (hb hby d4_18) rfl ((if0 _ _).trans (teq hc29).1) (by decide) (by decide) ?_
          refine XS.iinc X28.here hx rfl (hb hby d4_23) rfl (l' := #[.val (.ref a1), .val (.int 3)]) rfl ?_
          refine XS.goto X28.here hx rfl (pc0 := 26) (pc' := 2) rfl (hb hby d4_26) (by decide) (by decide) ?_
          refine XS.iloadN X28.here hx rfl (hb hby d4_2) rfl ?_
          refine XS.aloadN X28.here hx rfl (hb hby d4_3) rfl rfl ?_
          exact kt
        obtain ⟨cq32, kq32, qa32, qb32, qc32⟩ := isOf hZ eq28 (hS).1
        obtain ⟨_, _, ⟨T32, L32, k32, n32⟩, -, X32, ⟨Lc32, hQ32, l32, y32, z32⟩, st32⟩ := X28.virtualBack hx (y := own_m9) (z := own_m9) hown (mvT hZ (hw _ (own_w 27 rfl))) (mvT hZ (hw _ (own_w 28 rfl))) (notFace_of_selects (args := #[]) (mvT hZ (hw _ (own_w 30 rfl)))) (mvT hZ (hw _ (own_w 30 rfl))) (mvT hZ (hw _ (own_w 29 rfl))) (by decide) (backOf (W := 1) (rmlength l Z a0 hw [] a1 wC vb kb [c0, c1, c2] h0 n0 Z0 O0 qC hS (Nat.le_of_ble_eq_true rfl)) hZ (hw _ (own_w 31 rfl)) (hw _ (own_w 4 rfl)) (by decide) (by decide)) qa32 qc32 (g := (mkF m 4 #[.val (.ref a1), .val (.int 3)] [(.ref a1), (.int 3)])) rfl (by rw [hml]; rfl) (Steps.refl _) (argsL := []) (rest := [(.int 3)]) (lenOf pd_14 rfl) rfl (by show 2 * 0 + _ ≤ _; exact Nat.le_of_eq rfl) (hb hby d4_4) (fun _ _ => ⟨rfl, eq28, (by decide : 0 + 0 ≤ _), (by decide : 0 + 0 ≤ _)⟩)
        dsimp only [Pt.U, Pt.locs, Pt.cells, Pt.slots] at X32 l32 y32 z32 st32 hQ32
        subst l32 y32 z32
        obtain ⟨rfl, Nq32, eq32⟩ := hQ32
        have N32 := Fr.app N28 Nq32
        have pre33 : own_Go p e below S0 (T32.setTop (mkF m 7 #[.val (.ref a1), .val (.int 3)] [(.int (own_len [c0, c1, c2])), (.int 3)])) := by
          intro t kt
          refine pre31 t ?_
          refine st32.trans ?_
          show Steps p.tables e below (T32.setTop (mkF m 7 #[.val (.ref a1), .val (.int 3)] [(.int (own_len [c0, c1, c2])), (.int 3)])) _
          exact kt
        have pre34 : own_Go p e below S0 (T32.setTop (mkF m 7 #[.val (.ref a1), .val (.int 3)] [(.int 3), (.int 3)])) := by
          intro t kt
          refine pre33 t ?_
          rw [(show own_len [c0, c1, c2] = (3 : Int32) from rfl)]
          exact kt
        have pre35 : own_Go p e below S0 (T32.setTop (mkF m 30 #[.val (.ref a1), .val (.int 3)] [(.int 0)])) := by
          intro t kt
          refine pre34 t ?_
          refine XS.icmpYes X32.here hx rfl (pc0 := 7) (pc' := 29) rfl (hb hby d4_7) rfl (flt (by decide : ¬ ((3 : Int32) < (3 : Int32)))).2.1 (by decide) (by decide) ?_
          refine XS.iconst X32.here hx rfl (hb hby d4_29) ?_
          exact kt
        obtain ⟨fs, hr, hrun, hended, hW, hsame⟩ := X32.leave (v := some (.int 0)) (fun h => by rw [Bd.returns] at h; cases h)
        refine ⟨_, _, fin _ (pre35 _ ?_), hrun, hended, _, _, rfl, ?_, ⟨_, rfl⟩, hW, hsame.mono (by decide) (by decide)⟩
        · exact retN X32 hx (t := .boolean) Bd.returns (by simp) (hb hby d4_30) hr
        · show Qany3 Z a1 wC wF vb kb c0 c1 c2 h0 n0 _ T32.heap _
          rw [eq32]
          exact ⟨(by show some _ = some _; rw [own_any3, if_pos hc9, if_pos hc19, if_pos hc29]; first | done | rfl), N32, rfl⟩
      · have pre36 : own_Go p e below S0 (T28.setTop (mkF m 22 #[.val (.ref a1), .val (.int 2)] [(.int 1)])) := by
          intro t kt
          refine pre30 t ?_
          refine XS.ifNo X28.here hx rfl (hb hby d4_18) rfl ((if0 _ _).trans (feq hc29).1) ?_
          refine XS.iconst X28.here hx rfl (hb hby d4_21) ?_
          exact kt
        obtain ⟨fs, hr, hrun, hended, hW, hsame⟩ := X28.leave (v := some (.int 1)) (fun h => by rw [Bd.returns] at h; cases h)
        refine ⟨_, _, fin _ (pre36 _ ?_), hrun, hended, _, _, rfl, ?_, ⟨_, rfl⟩, hW, hsame.mono (by decide) (by decide)⟩
        · exact retN X28 hx (t := .boolean) Bd.returns (by simp) (hb hby d4_22) hr
        · show Qany3 Z a1 wC wF vb kb c0 c1 c2 h0 n0 _ T28.heap _
          rw [eq28]
          exact ⟨(by show some _ = some _; rw [own_any3, if_pos hc9, if_pos hc19, if_neg hc29]; first | done | rfl), N28, rfl⟩
    · have pre37 : own_Go p e below S0 (T18.setTop (mkF m 22 #[.val (.ref a1), .val (.int 1)] [(.int 1)])) := by
        intro t kt
        refine pre20 t ?_
        refine XS.ifNo X18.here hx rfl (hb hby d4_18) rfl ((if0 _ _).trans (feq hc19).1) ?_
        refine XS.iconst X18.here hx rfl (hb hby d4_21) ?_
        exact kt
      obtain ⟨fs, hr, hrun, hended, hW, hsame⟩ := X18.leave (v := some (.int 1)) (fun h => by rw [Bd.returns] at h; cases h)
      refine ⟨_, _, fin _ (pre37 _ ?_), hrun, hended, _, _, rfl, ?_, ⟨_, rfl⟩, hW, hsame.mono (by decide) (by decide)⟩
      · exact retN X18 hx (t := .boolean) Bd.returns (by simp) (hb hby d4_22) hr
      · show Qany3 Z a1 wC wF vb kb c0 c1 c2 h0 n0 _ T18.heap _
        rw [eq18]
        exact ⟨(by show some _ = some _; rw [own_any3, if_pos hc9, if_neg hc19]; first | done | rfl), N18, rfl⟩
  · have pre38 : own_Go p e below S0 (T8.setTop (mkF m 22 #[.val (.ref a1), .val (.int 0)] [(.int 1)])) := by
      intro t kt
      refine pre10 t ?_
      refine XS.ifNo X8.here hx rfl (hb hby d4_18) rfl ((if0 _ _).trans (feq hc9).1) ?_
      refine XS.iconst X8.here hx rfl (hb hby d4_21) ?_
      exact kt
    obtain ⟨fs, hr, hrun, hended, hW, hsame⟩ := X8.leave (v := some (.int 1)) (fun h => by rw [Bd.returns] at h; cases h)
    refine ⟨_, _, fin _ (pre38 _ ?_), hrun, hended, _, _, rfl, ?_, ⟨_, rfl⟩, hW, hsame.mono (by decide) (by decide)⟩
    · exact retN X8 hx (t := .boolean) Bd.returns (by simp) (hb hby d4_22) hr
    · show Qany3 Z a1 wC wF vb kb c0 c1 c2 h0 n0 _ T8.heap _
      rw [eq8]
      exact ⟨(by show some _ = some _; rw [own_any3, if_neg hc9]; first | done | rfl), N8, rfl⟩

theorem own_anyE3 (c0 : Int32) (c1 : Int32) (c2 : Int32) : own_any3 c0 c1 c2 = (own_e (own_e (own_e (0 : Int32) c0) c1) c2) := by
  unfold own_any3 own_e
  simp only [own_same]
  repeat' split
  all_goals first | rfl | simp_all

def own_any4 (c0 : Int32) (c1 : Int32) (c2 : Int32) (c3 : Int32) : Int32 := (if (own_is c0) = (0 : Int32) then (if (own_is c1) = (0 : Int32) then (if (own_is c2) = (0 : Int32) then (if (own_is c3) = (0 : Int32) then (0 : Int32) else (1 : Int32)) else (1 : Int32)) else (1 : Int32)) else (1 : Int32))

theorem ef_any4 (m : MethodId) (x0 : Addr) : entryFrame m #[(.ref x0)] 2 = mkF m 0 #[.val (.ref x0), .unset] [] := by first | (simp [entryFrame, mkF, argsToLocals, Value.category]; done) | rfl
def Qany4 (Z : State) (a1 : Addr) (wC : Int32) (wF : Value) (vb : Addr) (kb : ClassId) (c0 : Int32) (c1 : Int32) (c2 : Int32) (c3 : Int32) (h0 : Heap) (n0 : Nat) (v : Option Value) (h : Heap) (L : List Loc) : Prop := v = (some (.int (own_any4 c0 c1 c2 c3))) ∧ Fr n0 L ∧ h = h0
set_option maxRecDepth 65536 in
set_option maxHeartbeats 40000000 in
theorem rmany4 (l : Launch) (Z : State) (a0 : Array Value) (hw : ∀ d ∈ tables_1, d.before a0 Z = true) (ws : List Jvm.Cond) (a1 : Addr) (wC : Int32) (wF : Value) (vb : Addr) (kb : ClassId) (c0 : Int32) (c1 : Int32) (c2 : Int32) (c3 : Int32) (h0 : Heap) (n0 : Nat) (Z0 : n0 ≤ h0.size) (O0 : Old Z n0 h0) (qC : (own_SC Z wC)) (qU : (own_SU Z)) (qF : (own_SF Z wF)) (hS : own_Str Z h0 a1 vb kb [c0, c1, c2, c3]) :
    MetFree l own_m0 (head1 (Jvm.Cond.code own_m0 prog_13_method_3_code 2 (some .boolean) :: ws) (own_r 5 0 0 66)) (fun a U => a = #[(.ref a1)] ∧ Z.Warmed39 U.vm ∧ U.heap = h0) (fun _ _ _ _ _ => True) (fun _ U o U' => ∃ v L, o = .returned v ∧ Qany4 Z a1 wC wF vb kb c0 c1 c2 c3 h0 n0 v U'.heap L ∧ FrameEnd U o U' L (own_r 5 0 0 66).cells (own_r 5 0 0 66).slots) := by
  refine MetFree.of_bodySF (plainFor_of_name pn_4) hisR ?_
  intro p e s m args below meth c s₁ Bd hml0 hP hK
  obtain ⟨rfl, hZ, hh⟩ := hP
  have hx := Bd.exec
  have hby := Bd.bytes
  have hml : c.maxLocals = 2 := hml0
  have hown0 := findClass_of_methodNamed Bd.named
  have hown : s.vm.findClass "com/example/permgrid/permgrid/ControlCharacters" = some m.cls := hown0
  have hnm := (name_of_methodNamed Bd.named Bd.method).1
  have X0 : Stand p l e (own_r 5 0 0 66) s m #[(.ref a1)] below meth c s₁ [] 0 0 := Stand.of_body Bd
  have e0 : s₁.heap = h0 := by rw [← hh, Bd.state]; rfl
  have N0 := Fr.nil n0
  obtain ⟨S0, hS0⟩ : ∃ z, z = s₁.setTop (entryFrame m #[(.ref a1)] 2) := ⟨_, rfl⟩
  have pre0 : own_Go p e below S0 (s₁.setTop (mkF m 0 #[.val (.ref a1), .unset] [])) := fun t k => by rw [hS0]; exact castTop (ef_any4 m a1) k
  have fin : ∀ t, Steps p.tables e below S0 t → Steps p.tables e below (s₁.setTop (entryFrame m #[(.ref a1)] 2)) t := fun t k => by rw [hS0] at k; exact k
  have pre1 : own_Go p e below S0 (s₁.setTop (mkF m 4 #[.val (.ref a1), .val (.int 0)] [(.ref a1), (.int 0)])) := by
    intro t kt
    refine pre0 t ?_
    refine XS.iconst X0.here hx rfl (hb hby d4_0) ?_
    refine XS.istoreN X0.here hx rfl (hb hby d4_1) rfl (l' := #[.val (.ref a1), .val (.int 0)]) rfl ?_
    refine XS.iloadN X0.here hx rfl (hb hby d4_2) rfl ?_
    refine XS.aloadN X0.here hx rfl (hb hby d4_3) rfl rfl ?_
    exact kt
  obtain ⟨cq2, kq2, qa2, qb2, qc2⟩ := isOf hZ e0 (hS).1
  obtain ⟨_, _, ⟨T2, L2, k2, n2⟩, -, X2, ⟨Lc2, hQ2, l2, y2, z2⟩, st2⟩ := X0.virtualBack hx (y := own_m9) (z := own_m9) hown (mvT hZ (hw _ (own_w 27 rfl))) (mvT hZ (hw _ (own_w 28 rfl))) (notFace_of_selects (args := #[]) (mvT hZ (hw _ (own_w 30 rfl)))) (mvT hZ (hw _ (own_w 30 rfl))) (mvT hZ (hw _ (own_w 29 rfl))) (by decide) (backOf (W := 1) (rmlength l Z a0 hw [] a1 wC vb kb [c0, c1, c2, c3] h0 n0 Z0 O0 qC hS (Nat.le_of_ble_eq_true rfl)) hZ (hw _ (own_w 31 rfl)) (hw _ (own_w 4 rfl)) (by decide) (by decide)) qa2 qc2 (g := (mkF m 4 #[.val (.ref a1), .val (.int 0)] [(.ref a1), (.int 0)])) rfl (by rw [hml]; rfl) (Steps.refl _) (argsL := []) (rest := [(.int 0)]) (lenOf pd_14 rfl) rfl (by show 2 * 0 + _ ≤ _; exact Nat.le_of_eq rfl) (hb hby d4_4) (fun _ _ => ⟨rfl, e0, (by decide : 0 + 0 ≤ _), (by decide : 0 + 0 ≤ _)⟩)
  dsimp only [Pt.U, Pt.locs, Pt.cells, Pt.slots] at X2 l2 y2 z2 st2 hQ2
  subst l2 y2 z2
  obtain ⟨rfl, Nq2, eq2⟩ := hQ2
  have N2 := Fr.app N0 Nq2
  have pre3 : own_Go p e below S0 (T2.setTop (mkF m 7 #[.val (.ref a1), .val (.int 0)] [(.int (own_len [c0, c1, c2, c3])), (.int 0)])) := by
    intro t kt
    refine pre1 t ?_
    refine st2.trans ?_
    show Steps p.tables e below (T2.setTop (mkF m 7 #[.val (.ref a1), .val (.int 0)] [(.int (own_len [c0, c1, c2, c3])), (.int 0)])) _
    exact kt
  have pre4 : own_Go p e below S0 (T2.setTop (mkF m 7 #[.val (.ref a1), .val (.int 0)] [(.int 4), (.int 0)])) := by
    intro t kt
    refine pre3 t ?_
    rw [(show own_len [c0, c1, c2, c3] = (4 : Int32) from rfl)]
    exact kt
  have pre5 : own_Go p e below S0 (T2.setTop (mkF m 12 #[.val (.ref a1), .val (.int 0)] [(.int 0), (.ref a1)])) := by
    intro t kt
    refine pre4 t ?_
    refine XS.icmpNo X2.here hx rfl (hb hby d4_7) rfl (tlt (by decide : (0 : Int32) < (4 : Int32))).2.1 ?_
    refine XS.aloadN X2.here hx rfl (hb hby d4_10) rfl rfl ?_
    refine XS.iloadN X2.here hx rfl (hb hby d4_11) rfl ?_
    exact kt
  obtain ⟨cq6, kq6, qa6, qb6, qc6⟩ := isOf hZ eq2 (hS).1
  obtain ⟨_, _, ⟨T6, L6, k6, n6⟩, -, X6, ⟨Lc6, hQ6, l6, y6, z6⟩, st6⟩ := X2.virtualBack hx (y := own_m5) (z := own_m5) hown (mvT hZ (hw _ (own_w 52 rfl))) (mvT hZ (hw _ (own_w 53 rfl))) (notFace_of_selects (args := #[]) (mvT hZ (hw _ (own_w 55 rfl)))) (mvT hZ (hw _ (own_w 55 rfl))) (mvT hZ (hw _ (own_w 54 rfl))) (by decide) (backOf (W := 0) (rmcharAt l Z a0 hw [] a1 (0 : Int32) wC wF vb kb [c0, c1, c2, c3] c0 h0 n0 Z0 O0 qC qU qF hS (Nat.le_of_ble_eq_true rfl) (by decide) (by decide : (0 : Int32) < (4 : Int32)) rfl) hZ (hw _ (own_w 56 rfl)) (hw _ (own_w 4 rfl)) (by decide) (by decide)) qa6 qc6 (g := (mkF m 12 #[.val (.ref a1), .val (.int 0)] [(.int 0), (.ref a1)])) rfl (by rw [hml]; rfl) (Steps.refl _) (argsL := [(.int 0)]) (rest := []) (lenOf pd_15 rfl) rfl (by show 2 * 0 + _ ≤ _; exact Nat.le_of_eq rfl) (hb hby d4_12) (fun _ _ => ⟨rfl, eq2, (by decide : 0 + 0 ≤ _), (by decide : 0 + 0 ≤ _)⟩)
  dsimp only [Pt.U, Pt.locs, Pt.cells, Pt.slots] at X6 l6 y6 z6 st6 hQ6
  subst l6 y6 z6
  obtain ⟨rfl, Nq6, eq6⟩ := hQ6
  have N6 := Fr.app N2 Nq6
  have pre7 : own_Go p e below S0 (T6.setTop (mkF m 15 #[.val (.ref a1), .val (.int 0)] [(.int c0)])) := by
    intro t kt
    refine pre5 t ?_
    refine st6.trans ?_
    show Steps p.tables e below (T6.setTop (mkF m 15 #[.val (.ref a1), .val (.int 0)] [(.int c0)])) _
    exact kt
  obtain ⟨_, _, ⟨T8, L8, k8, n8⟩, -, X8, ⟨Lc8, hQ8, l8, y8, z8⟩, st8⟩ := Jvm.LawKit.callS X6 hx (y := own_m1) hown (mvT hZ (hw _ (own_w 74 rfl))) (mvT hZ (hw _ (own_w 75 rfl))) (mvT hZ (hw _ (own_w 25 rfl))) (mvT hZ (hw _ (own_w 76 rfl))) (by decide) (backOf (W := 0) (rm16 l Z a0 hw [] c0 h0 n0 Z0 ) hZ (hw _ (own_w 76 rfl)) (hw _ (own_w 25 rfl)) (by decide) (by decide)) (g := (mkF m 15 #[.val (.ref a1), .val (.int 0)] [(.int c0)])) rfl (by rw [hml]; rfl) (argsL := [(.int c0)]) (rest := []) (lenOf pd_16 rfl) rfl (by show 2 * 0 + _ ≤ _; exact Nat.le_of_eq rfl) (hb hby d4_15) (fun _ _ => ⟨rfl, eq6, (by decide : 0 + 0 ≤ _), (by decide : 0 + 0 ≤ _)⟩)
  dsimp only [Pt.U, Pt.locs, Pt.cells, Pt.slots] at X8 l8 y8 z8 st8 hQ8
  subst l8 y8 z8
  obtain ⟨rfl, Nq8, eq8⟩ := hQ8
  have N8 := Fr.app N6 Nq8
  have pre10 : own_Go p e below S0 (T8.setTop (mkF m 18 #[.val (.ref a1), .val (.int 0)] [(.int (own_is c0))])) := by
    intro t kt
    refine pre7 t ?_
    refine st8 _ ?_
    show Steps p.tables e below (T8.setTop (mkF m 18 #[.val (.ref a1), .val (.int 0)] [(.int (own_is c0))])) _
    exact kt
  by_cases hc9 : (own_is c0) = (0 : Int32)
  · have pre11 : own_Go p e below S0 (T8.setTop (mkF m 4 #[.val (.ref a1), .val (.int 1)] [(.ref a1), (.int 1)])) := by
      intro t kt
      refine pre10 t ?_
      refine XS.ifYes X8.here hx rfl (pc0 := 18) (pc' := 23) rfl (hb hby d4_18) rfl ((if0 _ _).trans (teq hc9).1) (by decide) (by decide) ?_
      refine XS.iinc X8.here hx rfl (hb hby d4_23) rfl (l' := #[.val (.ref a1), .val (.int 1)]) rfl ?_
      refine XS.goto X8.here hx rfl (pc0 := 26) (pc' := 2) rfl (hb hby d4_26) (by decide) (by decide) ?_
      refine XS.iloadN X8.here hx rfl (hb hby d4_2) rfl ?_
      refine XS.aloadN X8.here hx rfl (hb hby d4_3) rfl rfl ?_
      exact kt
    obtain ⟨cq12, kq12, qa12, qb12, qc12⟩ := isOf hZ eq8 (hS).1
    obtain ⟨_, _, ⟨T12, L12, k12, n12⟩, -, X12, ⟨Lc12, hQ12, l12, y12, z12⟩, st12⟩ := X8.virtualBack hx (y := own_m9) (z := own_m9) hown (mvT hZ (hw _ (own_w 27 rfl))) (mvT hZ (hw _ (own_w 28 rfl))) (notFace_of_selects (args := #[]) (mvT hZ (hw _ (own_w 30 rfl)))) (mvT hZ (hw _ (own_w 30 rfl))) (mvT hZ (hw _ (own_w 29 rfl))) (by decide) (backOf (W := 1) (rmlength l Z a0 hw [] a1 wC vb kb [c0, c1, c2, c3] h0 n0 Z0 O0 qC hS (Nat.le_of_ble_eq_true rfl)) hZ (hw _ (own_w 31 rfl)) (hw _ (own_w 4 rfl)) (by decide) (by decide)) qa12 qc12 (g := (mkF m 4 #[.val (.ref a1), .val (.int 1)] [(.ref a1), (.int 1)])) rfl (by rw [hml]; rfl) (Steps.refl _) (argsL := []) (rest := [(.int 1)]) (lenOf pd_14 rfl) rfl (by show 2 * 0 + _ ≤ _; exact Nat.le_of_eq rfl) (hb hby d4_4) (fun _ _ => ⟨rfl, eq8, (by decide : 0 + 0 ≤ _), (by decide : 0 + 0 ≤ _)⟩)
    dsimp only [Pt.U, Pt.locs, Pt.cells, Pt.slots] at X12 l12 y12 z12 st12 hQ12
    subst l12 y12 z12
    obtain ⟨rfl, Nq12, eq12⟩ := hQ12
    have N12 := Fr.app N8 Nq12
    have pre13 : own_Go p e below S0 (T12.setTop (mkF m 7 #[.val (.ref a1), .val (.int 1)] [(.int (own_len [c0, c1, c2, c3])), (.int 1)])) := by
      intro t kt
      refine pre11 t ?_
      refine st12.trans ?_
      show Steps p.tables e below (T12.setTop (mkF m 7 #[.val (.ref a1), .val (.int 1)] [(.int (own_len [c0, c1, c2, c3])), (.int 1)])) _
      exact kt
    have pre14 : own_Go p e below S0 (T12.setTop (mkF m 7 #[.val (.ref a1), .val (.int 1)] [(.int 4), (.int 1)])) := by
      intro t kt
      refine pre13 t ?_
      rw [(show own_len [c0, c1, c2, c3] = (4 : Int32) from rfl)]
      exact kt
    have pre15 : own_Go p e below S0 (T12.setTop (mkF m 12 #[.val (.ref a1), .val (.int 1)] [(.int 1), (.ref a1)])) := by
      intro t kt
      refine pre14 t ?_
      refine XS.icmpNo X12.here hx rfl (hb hby d4_7) rfl (tlt (by decide : (1 : Int32) < (4 : Int32))).2.1 ?_
      refine XS.aloadN X12.here hx rfl (hb hby d4_10) rfl rfl ?_
      refine XS.iloadN X12.here hx rfl (hb hby d4_11) rfl ?_
      exact kt
    obtain ⟨cq16, kq16, qa16, qb16, qc16⟩ := isOf hZ eq12 (hS).1
    obtain ⟨_, _, ⟨T16, L16, k16, n16⟩, -, X16, ⟨Lc16, hQ16, l16, y16, z16⟩, st16⟩ := X12.virtualBack hx (y := own_m5) (z := own_m5) hown (mvT hZ (hw _ (own_w 52 rfl))) (mvT hZ (hw _ (own_w 53 rfl))) (notFace_of_selects (args := #[]) (mvT hZ (hw _ (own_w 55 rfl)))) (mvT hZ (hw _ (own_w 55 rfl))) (mvT hZ (hw _ (own_w 54 rfl))) (by decide) (backOf (W := 0) (rmcharAt l Z a0 hw [] a1 (1 : Int32) wC wF vb kb [c0, c1, c2, c3] c1 h0 n0 Z0 O0 qC qU qF hS (Nat.le_of_ble_eq_true rfl) (by decide) (by decide : (1 : Int32) < (4 : Int32)) rfl) hZ (hw _ (own_w 56 rfl)) (hw _ (own_w 4 rfl)) (by decide) (by decide)) qa16 qc16 (g := (mkF m 12 #[.val (.ref a1), .val (.int 1)] [(.int 1), (.ref a1)])) rfl (by rw [hml]; rfl) (Steps.refl _) (argsL := [(.int 1)]) (rest := []) (lenOf pd_15 rfl) rfl (by show 2 * 0 + _ ≤ _; exact Nat.le_of_eq rfl) (hb hby d4_12) (fun _ _ => ⟨rfl, eq12, (by decide : 0 + 0 ≤ _), (by decide : 0 + 0 ≤ _)⟩)
    dsimp only [Pt.U, Pt.locs, Pt.cells, Pt.slots] at X16 l16 y16 z16 st16 hQ16
    subst l16 y16 z16
    obtain ⟨rfl, Nq16, eq16⟩ := hQ16
    have N16 := Fr.app N12 Nq16
    have pre17 : own_Go p e below S0 (T16.setTop (mkF m 15 #[.val (.ref a1), .val (.int 1)] [(.int c1)])) := by
      intro t kt
      refine pre15 t ?_
      refine st16.trans ?_
      show Steps p.tables e below (T16.setTop (mkF m 15 #[.val (.ref a1), .val (.int 1)] [(.int c1)])) _
      exact kt
    obtain ⟨_, _, ⟨T18, L18, k18, n18⟩, -, X18, ⟨Lc18, hQ18, l18, y18, z18⟩, st18⟩ := Jvm.LawKit.callS X16 hx (y := own_m1) hown (mvT hZ (hw _ (own_w 74 rfl))) (mvT hZ (hw _ (own_w 75 rfl))) (mvT hZ (hw _ (own_w 25 rfl))) (mvT hZ (hw _ (own_w 76 rfl))) (by decide) (backOf (W := 0) (rm16 l Z a0 hw [] c1 h0 n0 Z0 ) hZ (hw _ (own_w 76 rfl)) (hw _ (own_w 25 rfl)) (by decide) (by decide)) (g := (mkF m 15 #[.val (.ref a1), .val (.int 1)] [(.int c1)])) rfl (by rw [hml]; rfl) (argsL := [(.int c1)]) (rest := []) (lenOf pd_16 rfl) rfl (by show 2 * 0 + _ ≤ _; exact Nat.le_of_eq rfl) (hb hby d4_15) (fun _ _ => ⟨rfl, eq16, (by decide : 0 + 0 ≤ _), (by decide : 0 + 0 ≤ _)⟩)
    dsimp only [Pt.U, Pt.locs, Pt.cells, Pt.slots] at X18 l18 y18 z18 st18 hQ18
    subst l18 y18 z18
    obtain ⟨rfl, Nq18, eq18⟩ := hQ18
    have N18 := Fr.app N16 Nq18
    have pre20 : own_Go p e below S0 (T18.setTop (mkF m 18 #[.val (.ref a1), .val (.int 1)] [(.int (own_is c1))])) := by
      intro t kt
      refine pre17 t ?_
      refine st18 _ ?_
      show Steps p.tables e below (T18.setTop (mkF m 18 #[.val (.ref a1), .val (.int 1)] [(.int (own_is c1))])) _
      exact kt
    by_cases hc19 : (own_is c1) = (0 : Int32)
    · have pre21 : own_Go p e below S0 (T18.setTop (mkF m 4 #[.val (.ref a1), .val (.int 2)] [(.ref a1), (.int 2)])) := by
        intro t kt
        refine pre20 t ?_
        refine XS.ifYes X18.here hx rfl (pc0 := 18) (pc' := 23) rfl (hb hby d4_18) rfl ((if0 _ _).trans (teq hc19).1) (by decide) (by decide) ?_
        refine XS.iinc X18.here hx rfl (hb hby d4_23) rfl (l' := #[.val (.ref a1), .val (.int 2)]) rfl ?_
        refine XS.goto X18.here hx rfl (pc0 := 26) (pc' := 2) rfl (hb hby d4_26) (by decide) (by decide) ?_
        refine XS.iloadN X18.here hx rfl (hb hby d4_2) rfl ?_
        refine XS.aloadN X18.here hx rfl (hb hby d4_3) rfl rfl ?_
        exact kt
      obtain ⟨cq22, kq22, qa22, qb22, qc22⟩ := isOf hZ eq18 (hS).1
      obtain ⟨_, _, ⟨T22, L22, k22, n22⟩, -, X22, ⟨Lc22, hQ22, l22, y22, z22⟩, st22⟩ := X18.virtualBack hx (y := own_m9) (z := own_m9) hown (mvT hZ (hw _ (own_w 27 rfl))) (mvT hZ (hw _ (own_w 28 rfl))) (notFace_of_selects (args := #[]) (mvT hZ (hw _ (own_w 30 rfl)))) (mvT hZ (hw _ (own_w 30 rfl))) (mvT hZ (hw _ (own_w 29 rfl))) (by decide) (backOf (W := 1) (rmlength l Z a0 hw [] a1 wC vb kb [c0, c1, c2, c3] h0 n0 Z0 O0 qC hS (Nat.le_of_ble_eq_true rfl)) hZ (hw _ (own_w 31 rfl)) (hw _ (own_w 4 rfl)) (by decide) (by decide)) qa22 qc22 (g := (mkF m 4 #[.val (.ref a1), .val (.int 2)] [(.ref a1), (.int 2)])) rfl (by rw [hml]; rfl) (Steps.refl _) (argsL := []) (rest := [(.int 2)]) (lenOf pd_14 rfl) rfl (by show 2 * 0 + _ ≤ _; exact Nat.le_of_eq rfl) (hb hby d4_4) (fun _ _ => ⟨rfl, eq18, (by decide : 0 + 0 ≤ _), (by decide : 0 + 0 ≤ _)⟩)
      dsimp only [Pt.U, Pt.locs, Pt.cells, Pt.slots] at X22 l22 y22 z22 st22 hQ22
      subst l22 y22 z22
      obtain ⟨rfl, Nq22, eq22⟩ := hQ22
      have N22 := Fr.app N18 Nq22
      have pre23 : own_Go p e below S0 (T22.setTop (mkF m 7 #[.val (.ref a1), .val (.int 2)] [(.int (own_len [c0, c1, c2, c3])), (.int 2)])) := by
        intro t kt
        refine pre21 t ?_
        refine st22.trans ?_
        show Steps p.tables e below (T22.setTop (mkF m 7 #[.val (.ref a1), .val (.int 2)] [(.int (own_len [c0, c1, c2, c3])), (.int 2)])) _
        exact kt
      have pre24 : own_Go p e below S0 (T22.setTop (mkF m 7 #[.val (.ref a1), .val (.int 2)] [(.int 4), (.int 2)])) := by
        intro t kt
        refine pre23 t ?_
        rw [(show own_len [c0, c1, c2, c3] = (4 : Int32) from rfl)]
        exact kt
      have pre25 : own_Go p e below S0 (T22.setTop (mkF m 12 #[.val (.ref a1), .val (.int 2)] [(.int 2), (.ref a1)])) := by
        intro t kt
        refine pre24 t ?_
        refine XS.icmpNo X22.here hx rfl (hb hby d4_7) rfl (tlt (by decide : (2 : Int32) < (4 : Int32))).2.1 ?_
        refine XS.aloadN X22.here hx rfl (hb hby d4_10) rfl rfl ?_
        refine XS.iloadN X22.here hx rfl (hb hby d4_11) rfl ?_
        exact kt
      obtain ⟨cq26, kq26, qa26, qb26, qc26⟩ := isOf hZ eq22 (hS).1
      obtain ⟨_, _, ⟨T26, L26, k26, n26⟩, -, X26, ⟨Lc26, hQ26, l26, y26, z26⟩, st26⟩ := X22.virtualBack hx (y := own_m5) (z := own_m5) hown (mvT hZ (hw _ (own_w 52 rfl))) (mvT hZ (hw _ (own_w 53 rfl))) (notFace_of_selects (args := #[]) (mvT hZ (hw _ (own_w 55 rfl)))) (mvT hZ (hw _ (own_w 55 rfl))) (mvT hZ (hw _ (own_w 54 rfl))) (by decide) (backOf (W := 0) (rmcharAt l Z a0 hw [] a1 (2 : Int32) wC wF vb kb [c0, c1, c2, c3] c2 h0 n0 Z0 O0 qC qU qF hS (Nat.le_of_ble_eq_true rfl) (by decide) (by decide : (2 : Int32) < (4 : Int32)) rfl) hZ (hw _ (own_w 56 rfl)) (hw _ (own_w 4 rfl)) (by decide) (by decide)) qa26 qc26 (g := (mkF m 12 #[.val (.ref a1), .val (.int 2)] [(.int 2), (.ref a1)])) rfl (by rw [hml]; rfl) (Steps.refl _) (argsL := [(.int 2)]) (rest := []) (lenOf pd_15 rfl) rfl (by show 2 * 0 + _ ≤ _; exact Nat.le_of_eq rfl) (hb hby d4_12) (fun _ _ => ⟨rfl, eq22, (by decide : 0 + 0 ≤ _), (by decide : 0 + 0 ≤ _)⟩)
      dsimp only [Pt.U, Pt.locs, Pt.cells, Pt.slots] at X26 l26 y26 z26 st26 hQ26
      subst l26 y26 z26
      obtain ⟨rfl, Nq26, eq26⟩ := hQ26
      have N26 := Fr.app N22 Nq26
      have pre27 : own_Go p e below S0 (T26.setTop (mkF m 15 #[.val (.ref a1), .val (.int 2)] [(.int c2)])) := by
        intro t kt
        refine pre25 t ?_
        refine st26.trans ?_
        show Steps p.tables e below (T26.setTop (mkF m 15 #[.val (.ref a1), .val (.int 2)] [(.int c2)])) _
        exact kt
      obtain ⟨_, _, ⟨T28, L28, k28, n28⟩, -, X28, ⟨Lc28, hQ28, l28, y28, z28⟩, st28⟩ := Jvm.LawKit.callS X26 hx (y := own_m1) hown (mvT hZ (hw _ (own_w 74 rfl))) (mvT hZ (hw _ (own_w 75 rfl))) (mvT hZ (hw _ (own_w 25 rfl))) (mvT hZ (hw _ (own_w 76 rfl))) (by decide) (backOf (W := 0) (rm16 l Z a0 hw [] c2 h0 n0 Z0 ) hZ (hw _ (own_w 76 rfl)) (hw _ (own_w 25 rfl)) (by decide) (by decide)) (g := (mkF m 15 #[.val (.ref a1), .val (.int 2)] [(.int c2)])) rfl (by rw [hml]; rfl) (argsL := [(.int c2)]) (rest := []) (lenOf pd_16 rfl) rfl (by show 2 * 0 + _ ≤ _; exact Nat.le_of_eq rfl) (hb hby d4_15) (fun _ _ => ⟨rfl, eq26, (by decide : 0 + 0 ≤ _), (by decide : 0 + 0 ≤ _)⟩)
      dsimp only [Pt.U, Pt.locs, Pt.cells, Pt.slots] at X28 l28 y28 z28 st28 hQ28
      subst l28 y28 z28
      obtain ⟨rfl, Nq28, eq28⟩ := hQ28
      have N28 := Fr.app N26 Nq28
      have pre30 : own_Go p e below S0 (T28.setTop (mkF m 18 #[.val (.ref a1), .val (.int 2)] [(.int (own_is c2))])) := by
        intro t kt
        refine pre27 t ?_
        refine st28 _ ?_
        show Steps p.tables e below (T28.setTop (mkF m 18 #[.val (.ref a1), .val (.int 2)] [(.int (own_is c2))])) _
        exact kt
      by_cases hc29 : (own_is c2) = (0 : Int32)
      · have pre31 : own_Go p e below S0 (T28.setTop (mkF m 4 #[.val (.ref a1), .val (.int 3)] [(.ref a1), (.int 3)])) := by
          intro t kt
          refine pre30 t ?_
          refine XS.ifYes X28.here hx rfl (pc0 := 18) (pc' := 23) rfl (hb hby d4_18) rfl ((if0 _ _).trans (teq hc29).1) (by decide) (by decide) ?_
          refine XS.iinc X28.here hx rfl (hb hby d4_23) rfl (l' := #[.val (.ref a1), .val (.int 3)]) rfl ?_
          refine XS.goto X28.here hx rfl (pc0 := 26) (pc' := 2) rfl (hb hby d4_26) (by decide) (by decide) ?_
          refine XS.iloadN X28.here hx rfl (hb hby d4_2) rfl ?_
          refine XS.aloadN X28.here hx rfl (hb hby d4_3) rfl rfl ?_
          exact kt
        obtain ⟨cq32, kq32, qa32, qb32, qc32⟩ := isOf hZ eq28 (hS).1
        obtain ⟨_, _, ⟨T32, L32, k32, n32⟩, -, X32, ⟨Lc32, hQ32, l32, y32, z32⟩, st32⟩ := X28.virtualBack hx (y := own_m9) (z := own_m9) hown (mvT hZ (hw _ (own_w 27 rfl))) (mvT hZ (hw _ (own_w 28 rfl))) (notFace_of_selects (args := #[]) (mvT hZ (hw _ (own_w 30 rfl)))) (mvT hZ (hw _ (own_w 30 rfl))) (mvT hZ (hw _ (own_w 29 rfl))) (by decide) (backOf (W := 1) (rmlength l Z a0 hw [] a1 wC vb kb [c0, c1, c2, c3] h0 n0 Z0 O0 qC hS (Nat.le_of_ble_eq_true rfl)) hZ (hw _ (own_w 31 rfl)) (hw _ (own_w 4 rfl)) (by decide) (by decide)) qa32 qc32 (g := (mkF m 4 #[.val (.ref a1), .val (.int 3)] [(.ref a1), (.int 3)])) rfl (by rw [hml]; rfl) (Steps.refl _) (argsL := []) (rest := [(.int 3)]) (lenOf pd_14 rfl) rfl (by show 2 * 0 + _ ≤ _; exact Nat.le_of_eq rfl) (hb hby d4_4) (fun _ _ => ⟨rfl, eq28, (by decide : 0 + 0 ≤ _), (by decide : 0 + 0 ≤ _)⟩)
        dsimp only [Pt.U, Pt.locs, Pt.cells, Pt.slots] at X32 l32 y32 z32 st32 hQ32
        subst l32 y32 z32
        obtain ⟨rfl, Nq32, eq32⟩ := hQ32
        have N32 := Fr.app N28 Nq32
        have pre33 : own_Go p e below S0 (T32.setTop (mkF m 7 #[.val (.ref a1), .val (.int 3)] [(.int (own_len [c0, c1, c2, c3])), (.int 3)])) := by
          intro t kt
          refine pre31 t ?_
          refine st32.trans ?_
          show Steps p.tables e below (T32.setTop (mkF m 7 #[.val (.ref a1), .val (.int 3)] [(.int (own_len [c0, c1, c2, c3])), (.int 3)])) _
          exact kt
        have pre34 : own_Go p e below S0 (T32.setTop (mkF m 7 #[.val (.ref a1), .val (.int 3)] [(.int 4), (.int 3)])) := by
          intro t kt
          refine pre33 t ?_
          rw [(show own_len [c0, c1, c2, c3] = (4 : Int32) from rfl)]
          exact kt
        have pre35 : own_Go p e below S0 (T32.setTop (mkF m 12 #[.val (.ref a1), .val (.int 3)] [(.int 3), (.ref a1)])) := by
          intro t kt
          refine pre34 t ?_
          refine XS.icmpNo X32.here hx rfl (hb hby d4_7) rfl (tlt (by decide : (3 : Int32) < (4 : Int32))).2.1 ?_
          refine XS.aloadN X32.here hx rfl (hb hby d4_10) rfl rfl ?_
          refine XS.iloadN X32.here hx rfl (hb hby d4_11) rfl ?_
          exact kt
        obtain ⟨cq36, kq36, qa36, qb36, qc36⟩ := isOf hZ eq32 (hS).1
        obtain ⟨_, _, ⟨T36, L36, k36, n36⟩, -, X36, ⟨Lc36, hQ36, l36, y36, z36⟩, st36⟩ := X32.virtualBack hx (y := own_m5) (z := own_m5) hown (mvT hZ (hw _ (own_w 52 rfl))) (mvT hZ (hw _ (own_w 53 rfl))) (notFace_of_selects (args := #[]) (mvT hZ (hw _ (own_w 55 rfl)))) (mvT hZ (hw _ (own_w 55 rfl))) (mvT hZ (hw _ (own_w 54 rfl))) (by decide) (backOf (W := 0) (rmcharAt l Z a0 hw [] a1 (3 : Int32) wC wF vb kb [c0, c1, c2, c3] c3 h0 n0 Z0 O0 qC qU qF hS (Nat.le_of_ble_eq_true rfl) (by decide) (by decide : (3 : Int32) < (4 : Int32)) rfl) hZ (hw _ (own_w 56 rfl)) (hw _ (own_w 4 rfl)) (by decide) (by decide)) qa36 qc36 (g := (mkF m 12 #[.val (.ref a1), .val (.int 3)] [(.int 3), (.ref a1)])) rfl (by rw [hml]; rfl) (Steps.refl _) (argsL := [(.int 3)]) (rest := []) (lenOf pd_15 rfl) rfl (by show 2 * 0 + _ ≤ _; exact Nat.le_of_eq rfl) (hb hby d4_12) (fun _ _ => ⟨rfl, eq32, (by decide : 0 + 0 ≤ _), (by decide : 0 + 0 ≤ _)⟩)
        dsimp only [Pt.U, Pt.locs, Pt.cells, Pt.slots] at X36 l36 y36 z36 st36 hQ36
        subst l36 y36 z36
        obtain ⟨rfl, Nq36, eq36⟩ := hQ36
        have N36 := Fr.app N32 Nq36
        have pre37 : own_Go p e below S0 (T36.setTop (mkF m 15 #[.val (.ref a1), .val (.int 3)] [(.int c3)])) := by
          intro t kt
          refine pre35 t ?_
          refine st36.trans ?_
          show Steps p.tables e below (T36.setTop (mkF m 15 #[.val (.ref a1), .val (.int 3)] [(.int c3)])) _
          exact kt
        obtain ⟨_, _, ⟨T38, L38, k38, n38⟩, -, X38, ⟨Lc38, hQ38, l38, y38, z38⟩, st38⟩ := Jvm.LawKit.callS X36 hx (y := own_m1) hown (mvT hZ (hw _ (own_w 74 rfl))) (mvT hZ (hw _ (own_w 75 rfl))) (mvT hZ (hw _ (own_w 25 rfl))) (mvT hZ (hw _ (own_w 76 rfl))) (by decide) (backOf (W := 0) (rm16 l Z a0 hw [] c3 h0 n0 Z0 ) hZ (hw _ (own_w 76 rfl)) (hw _ (own_w 25 rfl)) (by decide) (by decide)) (g := (mkF m 15 #[.val (.ref a1), .val (.int 3)] [(.int c3)])) rfl (by rw [hml]; rfl) (argsL := [(.int c3)]) (rest := []) (lenOf pd_16 rfl) rfl (by show 2 * 0 + _ ≤ _; exact Nat.le_of_eq rfl) (hb hby d4_15) (fun _ _ => ⟨rfl, eq36, (by decide : 0 + 0 ≤ _), (by decide : 0 + 0 ≤ _)⟩)
        dsimp only [Pt.U, Pt.locs, Pt.cells, Pt.slots] at X38 l38 y38 z38 st38 hQ38
        subst l38 y38 z38
        obtain ⟨rfl, Nq38, eq38⟩ := hQ38
        have N38 := Fr.app N36 Nq38
        have pre40 : own_Go p e below S0 (T38.setTop (mkF m 18 #[.val (.ref a1), .val (.int 3)] [(.int (own_is c3))])) := by
          intro t kt
          refine pre37 t ?_
          refine st38 _ ?_
          show Steps p.tables e below (T38.setTop (mkF m 18 #[.val (.ref a1), .val (.int 3)] [(.int (own_is c3))])) _
          exact kt
        by_cases hc39 : (own_is c3) = (0 : Int32)
        · have pre41 : own_Go p e below S0 (T38.setTop (mkF m 4 #[.val (.ref a1), .val (.int 4)] [(.ref a1), (.int 4)])) := by
            intro t kt
            refine pre40 t ?_
            refine XS.ifYes X38.here hx rfl (pc0 := 18) (pc' := 23) rfl (hb hby d4_18) rfl ((if0 _ _).trans (teq hc39).1) (by decide) (by decide) ?_
            refine XS.iinc X38.here hx rfl (hb hby d4_23) rfl (l' := #[.val (.ref a1), .val (.int 4)]) rfl ?_
            refine XS.goto X38.here hx rfl (pc0 := 26) (pc' := 2) rfl (hb hby d4_26) (by decide) (by decide) ?_
            refine XS.iloadN X38.here hx rfl (hb hby d4_2) rfl ?_
            refine XS.aloadN X38.here hx rfl (hb hby d4_3) rfl rfl ?_
            exact kt
          obtain ⟨cq42, kq42, qa42, qb42, qc42⟩ := isOf hZ eq38 (hS).1
          obtain ⟨_, _, ⟨T42, L42, k42, n42⟩, -, X42, ⟨Lc42, hQ42, l42, y42, z42⟩, st42⟩ := X38.virtualBack hx (y := own_m9) (z := own_m9) hown (mvT hZ (hw _ (own_w 27 rfl))) (mvT hZ (hw _ (own_w 28 rfl))) (notFace_of_selects (args := #[]) (mvT hZ (hw _ (own_w 30 rfl)))) (mvT hZ (hw _ (own_w 30 rfl))) (mvT hZ (hw _ (own_w 29 rfl))) (by decide) (backOf (W := 1) (rmlength l Z a0 hw [] a1 wC vb kb [c0, c1, c2, c3] h0 n0 Z0 O0 qC hS (Nat.le_of_ble_eq_true rfl)) hZ (hw _ (own_w 31 rfl)) (hw _ (own_w 4 rfl)) (by decide) (by decide)) qa42 qc42 (g := (mkF m 4 #[.val (.ref a1), .val (.int 4)] [(.ref a1), (.int 4)])) rfl (by rw [hml]; rfl) (Steps.refl _) (argsL := []) (rest := [(.int 4)]) (lenOf pd_14 rfl) rfl (by show 2 * 0 + _ ≤ _; exact Nat.le_of_eq rfl) (hb hby d4_4) (fun _ _ => ⟨rfl, eq38, (by decide : 0 + 0 ≤ _), (by decide : 0 + 0 ≤ _)⟩)
          dsimp only [Pt.U, Pt.locs, Pt.cells, Pt.slots] at X42 l42 y42 z42 st42 hQ42
          subst l42 y42 z42
          obtain ⟨rfl, Nq42, eq42⟩ := hQ42
          have N42 := Fr.app N38 Nq42
          have pre43 : own_Go p e below S0 (T42.setTop (mkF m 7 #[.val (.ref a1), .val (.int 4)] [(.int (own_len [c0, c1, c2, c3])), (.int 4)])) := by
            intro t kt
            refine pre41 t ?_
            refine st42.trans ?_
            show Steps p.tables e below (T42.setTop (mkF m 7 #[.val (.ref a1), .val (.int 4)] [(.int (own_len [c0, c1, c2, c3])), (.int 4)])) _
            exact kt
          have pre44 : own_Go p e below S0 (T42.setTop (mkF m 7 #[.val (.ref a1), .val (.int 4)] [(.int 4), (.int 4)])) := by
            intro t kt
            refine pre43 t ?_
            rw [(show own_len [c0, c1, c2, c3] = (4 : Int32) from rfl)]
            exact kt
          have pre45 : own_Go p e below S0 (T42.setTop (mkF m 30 #[.val (.ref a1), .val (.int 4)] [(.int 0)])) := by
            intro t kt
            refine pre44 t ?_
            refine XS.icmpYes X42.here hx rfl (pc0 := 7) (pc' := 29) rfl (hb hby d4_7) rfl (flt (by decide : ¬ ((4 : Int32) < (4 : Int32)))).2.1 (by decide) (by decide) ?_
            refine XS.iconst X42.here hx rfl (hb hby d4_29) ?_
            exact kt
          obtain ⟨fs, hr, hrun, hended, hW, hsame⟩ := X42.leave (v := some (.int 0)) (fun h => by rw [Bd.returns] at h; cases h)
          refine ⟨_, _, fin _ (pre45 _ ?_), hrun, hended, _, _, rfl, ?_, ⟨_, rfl⟩, hW, hsame.mono (by decide) (by decide)⟩
          · exact retN X42 hx (t := .boolean) Bd.returns (by simp) (hb hby d4_30) hr
          · show Qany4 Z a1 wC wF vb kb c0 c1 c2 c3 h0 n0 _ T42.heap _
            rw [eq42]
            exact ⟨(by show some _ = some _; rw [own_any4, if_pos hc9, if_pos hc19, if_pos hc29, if_pos hc39]; first | done | rfl), N42, rfl⟩
        · have pre46 : own_Go p e below S0 (T38.setTop (mkF m 22 #[.val (.ref a1), .val (.int 3)] [(.int 1)])) := by
            intro t kt
            refine pre40 t ?_
            refine XS.ifNo X38.here hx rfl (hb hby d4_18) rfl ((if0 _ _).trans (feq hc39).1) ?_
            refine XS.iconst X38.here hx rfl (hb hby d4_21) ?_
            exact kt
          obtain ⟨fs, hr, hrun, hended, hW, hsame⟩ := X38.leave (v := some (.int 1)) (fun h => by rw [Bd.returns] at h; cases h)
          refine ⟨_, _, fin _ (pre46 _ ?_), hrun, hended, _, _, rfl, ?_, ⟨_, rfl⟩, hW, hsame.mono (by decide) (by decide)⟩
          · exact retN X38 hx (t := .boolean) Bd.returns (by simp) (hb hby d4_22) hr
          · show Qany4 Z a1 wC wF vb kb c0 c1 c2 c3 h0 n0 _ T38.heap _
            rw [eq38]
            exact ⟨(by show some _ = some _; rw [own_any4, if_pos hc9, if_pos hc19, if_pos hc29, if_neg hc39]; first | done | rfl), N38, rfl⟩
      · have pre47 : own_Go p e below S0 (T28.setTop (mkF m 22 #[.val (.ref a1), .val (.int 2)] [(.int 1)])) := by
          intro t kt
          refine pre30 t ?_
          refine XS.ifNo X28.here hx rfl (hb hby d4_18) rfl ((if0 _ _).trans (feq hc29).1) ?_
          refine XS.iconst X28.here hx rfl (hb hby d4_21) ?_
          exact kt
        obtain ⟨fs, hr, hrun, hended, hW, hsame⟩ := X28.leave (v := some (.int 1)) (fun h => by rw [Bd.returns] at h; cases h)
        refine ⟨_, _, fin _ (pre47 _ ?_), hrun, hended, _, _, rfl, ?_, ⟨_, rfl⟩, hW, hsame.mono (by decide) (by decide)⟩
        · exact retN X28 hx (t := .boolean) Bd.returns (by simp) (hb hby d4_22) hr
        · show Qany4 Z a1 wC wF vb kb c0 c1 c2 c3 h0 n0 _ T28.heap _
          rw [eq28]
          exact ⟨(by show some _ = some _; rw [own_any4, if_pos hc9, if_pos hc19, if_neg hc29]; first | done | rfl), N28, rfl⟩
    · have pre48 : own_Go p e below S0 (T18.setTop (mkF m 22 #[.val (.ref a1), .val (.int 1)] [(.int 1)])) := by
        intro t kt
        refine pre20 t ?_
        refine XS.ifNo X18.here hx rfl (hb hby d4_18) rfl ((if0 _ _).trans (feq hc19).1) ?_
        refine XS.iconst X18.here hx rfl (hb hby d4_21) ?_
        exact kt
      obtain ⟨fs, hr, hrun, hended, hW, hsame⟩ := X18.leave (v := some (.int 1)) (fun h => by rw [Bd.returns] at h; cases h)
      refine ⟨_, _, fin _ (pre48 _ ?_), hrun, hended, _, _, rfl, ?_, ⟨_, rfl⟩, hW, hsame.mono (by decide) (by decide)⟩
      · exact retN X18 hx (t := .boolean) Bd.returns (by simp) (hb hby d4_22) hr
      · show Qany4 Z a1 wC wF vb kb c0 c1 c2 c3 h0 n0 _ T18.heap _
        rw [eq18]
        exact ⟨(by show some _ = some _; rw [own_any4, if_pos hc9, if_neg hc19]; first | done | rfl), N18, rfl⟩
  · have pre49 : own_Go p e below S0 (T8.setTop (mkF m 22 #[.val (.ref a1), .val (.int 0)] [(.int 1)])) := by
      intro t kt
      refine pre10 t ?_
      refine XS.ifNo X8.here hx rfl (hb hby d4_18) rfl ((if0 _ _).trans (feq hc9).1) ?_
      refine XS.iconst X8.here hx rfl (hb hby d4_21) ?_
      exact kt
    obtain ⟨fs, hr, hrun, hended, hW, hsame⟩ := X8.leave (v := some (.int 1)) (fun h => by rw [Bd.returns] at h; cases h)
    refine ⟨_, _, fin _ (pre49 _ ?_), hrun, hended, _, _, rfl, ?_, ⟨_, rfl⟩, hW, hsame.mono (by decide) (by decide)⟩
    · exact retN X8 hx (t := .boolean) Bd.returns (by simp) (hb hby d4_22) hr
    · show Qany4 Z a1 wC wF vb kb c0 c1 c2 c3 h0 n0 _ T8.heap _
      rw [eq8]
      exact ⟨(by show some _ = some _; rw [own_any4, if_neg hc9]; first | done | rfl), N8, rfl⟩

theorem own_anyE4 (c0 : Int32) (c1 : Int32) (c2 : Int32) (c3 : Int32) : own_any4 c0 c1 c2 c3 = (own_e (own_e (own_e (own_e (0 : Int32) c0) c1) c2) c3) := by
  unfold own_any4 own_e
  simp only [own_same]
  repeat' split
  all_goals first | rfl | simp_all

theorem own_rem5 (x : Int32) : (x &&& 2147483647) % 5 = 0 ∨ (x &&& 2147483647) % 5 = 1 ∨ (x &&& 2147483647) % 5 = 2 ∨ (x &&& 2147483647) % 5 = 3 ∨ (x &&& 2147483647) % 5 = 4 := by
  have h := c_mask x 2147483647 31 (by decide) (by decide)
  have h2 := c_irem (x &&& 2147483647) 5 5 rfl
  have he : ∀ a b : Int32, a = b ↔ a.toInt = b.toInt := fun a b => Int32.toInt_inj.symm
  simp only [he, show (0 : Int32).toInt = 0 from rfl, show (1 : Int32).toInt = 1 from rfl, show (2 : Int32).toInt = 2 from rfl, show (3 : Int32).toInt = 3 from rfl, show (4 : Int32).toInt = 4 from rfl]
  omega
theorem own_nc (x : Int32) : nar .char (x.toUInt32.toUInt16.toUInt32.toInt32) = x.toUInt32.toUInt16.toUInt32.toInt32 := by
  have h := c_i2c x
  exact own_narChar _ h.2.1 h.2.2

theorem pn_0 : plainName "com/example/permgrid/permgrid/ControlCharactersAnyInPinLaw" = true := by first | (simp [plainName, overriddenIn]; done) | decide +kernel
theorem pd_17 : parseMethodDescriptor "([C)V" = some ⟨[(.array .char)], none⟩ := by decide +kernel
theorem pd_18 : parseMethodDescriptor "(Ljava/lang/String;)Z" = some ⟨[(.object "java/lang/String")], some .boolean⟩ := by decide +kernel
theorem ef_0 (m : MethodId) (x0 : Int32) (x1 : Int32) (x2 : Int32) (x3 : Int32) (x4 : Int32) : entryFrame m #[(.int x0), (.int x1), (.int x2), (.int x3), (.int x4)] maxLocals = mkF m 0 #[.val (.int x0), .val (.int x1), .val (.int x2), .val (.int x3), .val (.int x4), .unset, .unset, .unset, .unset, .unset, .unset, .unset, .unset] [] := by first | (simp [entryFrame, mkF, argsToLocals, Value.category, maxLocals]; done) | rfl
def Q0 (Z : State) (p1 : Int32) (p2 : Int32) (p3 : Int32) (p4 : Int32) (p5 : Int32) (wC : Int32) (wF : Value) (h0 : Heap) (n0 : Nat) (v : Option Value) (h : Heap) (L : List Loc) : Prop := v = (some (.int 1)) ∧ Fr n0 L
set_option maxRecDepth 65536 in
set_option maxHeartbeats 40000000 in
theorem rm0 (l : Launch) (Z : State) (a0 : Array Value) (hw : ∀ d ∈ tables_1, d.before a0 Z = true) (ws : List Jvm.Cond) (p1 : Int32) (p2 : Int32) (p3 : Int32) (p4 : Int32) (p5 : Int32) (wC : Int32) (wF : Value) (h0 : Heap) (n0 : Nat) (Z0 : n0 ≤ h0.size) (O0 : Old Z n0 h0) (qC : (own_SC Z wC)) (qU : (own_SU Z)) (qF : (own_SF Z wF)) :
    MetFree l x (head1 (Jvm.Cond.code x code maxLocals ret :: ws) room_1) (fun a U => a = #[(.int p1), (.int p2), (.int p3), (.int p4), (.int p5)] ∧ Z.Warmed39 U.vm ∧ U.heap = h0 ∧ CHv Z own_EL U.vm h0 ∧ ∀ x ∈ ([] : List Addr), Safe Z own_EL U.vm h0 x) (fun _ _ _ _ _ => True) (fun _ U o U' => ∃ v L, o = .returned v ∧ Q0 Z p1 p2 p3 p4 p5 wC wF h0 n0 v U'.heap L ∧ ReturnedEndW U o U' L 4 20) := by
  refine MetFree.of_bodySF (plainFor_of_name pn_0) hisR ?_
  intro p e s m args below meth c s₁ Bd hml0 hP hK
  obtain ⟨rfl, hZ, hh, hCH, hSF⟩ := hP
  have hx := Bd.exec
  have hby := Bd.bytes
  have hml : c.maxLocals = 13 := hml0
  have hown0 := findClass_of_methodNamed Bd.named
  have hown : s.vm.findClass "com/example/permgrid/permgrid/ControlCharactersAnyInPinLaw" = some m.cls := hown0
  have hnm := (name_of_methodNamed Bd.named Bd.method).1
  have X0 : Stand p l e room_1 s m #[(.int p1), (.int p2), (.int p3), (.int p4), (.int p5)] below meth c s₁ [] 0 0 := Stand.of_body Bd
  have e0 : s₁.heap = h0 := by rw [← hh, Bd.state]; rfl
  have N0 := Fr.nil n0
  obtain ⟨S0, hS0⟩ : ∃ z, z = s₁.setTop (entryFrame m #[(.int p1), (.int p2), (.int p3), (.int p4), (.int p5)] maxLocals) := ⟨_, rfl⟩
  have pre0 : own_Go p e below S0 (s₁.setTop (mkF m 0 #[.val (.int p1), .val (.int p2), .val (.int p3), .val (.int p4), .val (.int p5), .unset, .unset, .unset, .unset, .unset, .unset, .unset, .unset] [])) := fun t k => by rw [hS0]; exact castTop (ef_0 m p1 p2 p3 p4 p5) k
  have fin : ∀ t, Steps p.tables e below S0 t → Steps p.tables e below (s₁.setTop (entryFrame m #[(.int p1), (.int p2), (.int p3), (.int p4), (.int p5)] maxLocals)) t := fun t k => by rw [hS0] at k; exact k
  have ch0 : CHr Z own_EL s.vm h0 s.vm h0 := CHr.refl hCH
  have pre1 : own_Go p e below S0 (s₁.setTop (mkF m 25 #[.val (.int p1), .val (.int p2), .val (.int p3), .val (.int p4), .val (.int p5), .val (.int ((p1 &&& (2147483647 : Int32)) % (5 : Int32))), .val (.int (p2.toUInt32.toUInt16.toUInt32.toInt32)), .val (.int (p3.toUInt32.toUInt16.toUInt32.toInt32)), .val (.int (p4.toUInt32.toUInt16.toUInt32.toInt32)), .val (.int (p5.toUInt32.toUInt16.toUInt32.toInt32)), .unset, .unset, .unset] [])) := by
    intro t kt
    refine pre0 t ?_
    refine XS.iloadN X0.here hx rfl (hb hby at_0) rfl ?_
    refine X0.ldcInt hx hown (mvT hZ (hw _ (own_w 0 rfl))) (g := (mkF m 1 #[.val (.int p1), .val (.int p2), .val (.int p3), .val (.int p4), .val (.int p5), .unset, .unset, .unset, .unset, .unset, .unset, .unset, .unset] [(.int p1)])) rfl (hb hby at_1) _ ?_
    refine XS.iand X0.here hx rfl (hb hby at_3) rfl ?_
    refine XS.iconst X0.here hx rfl (hb hby at_4) ?_
    refine iremM X0 hx rfl (hb hby at_5) rfl (by decide) ?_
    refine XS.istore X0.here hx rfl (hb hby at_6) rfl (l' := #[.val (.int p1), .val (.int p2), .val (.int p3), .val (.int p4), .val (.int p5), .val (.int ((p1 &&& (2147483647 : Int32)) % (5 : Int32))), .unset, .unset, .unset, .unset, .unset, .unset, .unset]) rfl ?_
    show Steps p.tables e below (s₁.setTop (mkF m 8 #[.val (.int p1), .val (.int p2), .val (.int p3), .val (.int p4), .val (.int p5), .val (.int ((p1 &&& (2147483647 : Int32)) % (5 : Int32))), .unset, .unset, .unset, .unset, .unset, .unset, .unset] [])) _
    refine XS.iloadN X0.here hx rfl (hb hby at_8) rfl ?_
    refine XS.i2c X0.here hx rfl (hb hby at_9) rfl ?_
    refine XS.istore X0.here hx rfl (hb hby at_10) rfl (l' := #[.val (.int p1), .val (.int p2), .val (.int p3), .val (.int p4), .val (.int p5), .val (.int ((p1 &&& (2147483647 : Int32)) % (5 : Int32))), .val (.int (p2.toUInt32.toUInt16.toUInt32.toInt32)), .unset, .unset, .unset, .unset, .unset, .unset]) rfl ?_
    refine XS.iloadN X0.here hx rfl (hb hby at_12) rfl ?_
    refine XS.i2c X0.here hx rfl (hb hby at_13) rfl ?_
    refine XS.istore X0.here hx rfl (hb hby at_14) rfl (l' := #[.val (.int p1), .val (.int p2), .val (.int p3), .val (.int p4), .val (.int p5), .val (.int ((p1 &&& (2147483647 : Int32)) % (5 : Int32))), .val (.int (p2.toUInt32.toUInt16.toUInt32.toInt32)), .val (.int (p3.toUInt32.toUInt16.toUInt32.toInt32)), .unset, .unset, .unset, .unset, .unset]) rfl ?_
    show Steps p.tables e below (s₁.setTop (mkF m 16 #[.val (.int p1), .val (.int p2), .val (.int p3), .val (.int p4), .val (.int p5), .val (.int ((p1 &&& (2147483647 : Int32)) % (5 : Int32))), .val (.int (p2.toUInt32.toUInt16.toUInt32.toInt32)), .val (.int (p3.toUInt32.toUInt16.toUInt32.toInt32)), .unset, .unset, .unset, .unset, .unset] [])) _
    refine XS.iloadN X0.here hx rfl (hb hby at_16) rfl ?_
    refine XS.i2c X0.here hx rfl (hb hby at_17) rfl ?_
    refine XS.istore X0.here hx rfl (hb hby at_18) rfl (l' := #[.val (.int p1), .val (.int p2), .val (.int p3), .val (.int p4), .val (.int p5), .val (.int ((p1 &&& (2147483647 : Int32)) % (5 : Int32))), .val (.int (p2.toUInt32.toUInt16.toUInt32.toInt32)), .val (.int (p3.toUInt32.toUInt16.toUInt32.toInt32)), .val (.int (p4.toUInt32.toUInt16.toUInt32.toInt32)), .unset, .unset, .unset, .unset]) rfl ?_
    refine XS.iload X0.here hx rfl (hb hby at_20) rfl ?_
    refine XS.i2c X0.here hx rfl (hb hby at_22) rfl ?_
    refine XS.istore X0.here hx rfl (hb hby at_23) rfl (l' := #[.val (.int p1), .val (.int p2), .val (.int p3), .val (.int p4), .val (.int p5), .val (.int ((p1 &&& (2147483647 : Int32)) % (5 : Int32))), .val (.int (p2.toUInt32.toUInt16.toUInt32.toInt32)), .val (.int (p3.toUInt32.toUInt16.toUInt32.toInt32)), .val (.int (p4.toUInt32.toUInt16.toUInt32.toInt32)), .val (.int (p5.toUInt32.toUInt16.toUInt32.toInt32)), .unset, .unset, .unset]) rfl ?_
    show Steps p.tables e below (s₁.setTop (mkF m 25 #[.val (.int p1), .val (.int p2), .val (.int p3), .val (.int p4), .val (.int p5), .val (.int ((p1 &&& (2147483647 : Int32)) % (5 : Int32))), .val (.int (p2.toUInt32.toUInt16.toUInt32.toInt32)), .val (.int (p3.toUInt32.toUInt16.toUInt32.toInt32)), .val (.int (p4.toUInt32.toUInt16.toUInt32.toInt32)), .val (.int (p5.toUInt32.toUInt16.toUInt32.toInt32)), .unset, .unset, .unset] [])) _
    exact kt
  obtain ⟨y0, y1, y2, y3, Tj2, lj2, Xj2, Nj2, ej2, pj3, pj4, pj5, pj6, prej2⟩ : ∃ (y0 : Int32) (y1 : Int32) (y2 : Int32) (y3 : Int32) (Tj2 : State) (lj2 : List Loc), Stand p l e room_1 s m #[(.int p1), (.int p2), (.int p3), (.int p4), (.int p5)] below meth c Tj2 lj2 0 0 ∧ Fr n0 lj2 ∧ Tj2.heap = h0 ∧ nar .char y0 = y0 ∧ nar .char y1 = y1 ∧ nar .char y2 = y2 ∧ nar .char y3 = y3 ∧ own_Go p e below S0 (Tj2.setTop (mkF m 25 #[.val (.int p1), .val (.int p2), .val (.int p3), .val (.int p4), .val (.int p5), .val (.int ((p1 &&& (2147483647 : Int32)) % (5 : Int32))), .val (.int y0), .val (.int y1), .val (.int y2), .val (.int y3), .unset, .unset, .unset] [])) := by
    exact ⟨(p2.toUInt32.toUInt16.toUInt32.toInt32), (p3.toUInt32.toUInt16.toUInt32.toInt32), (p4.toUInt32.toUInt16.toUInt32.toInt32), (p5.toUInt32.toUInt16.toUInt32.toInt32), s₁, _, (Stand.mono X0 (by decide) (by decide)), N0, e0, (own_nc p2), (own_nc p3), (own_nc p4), (own_nc p5), pre1⟩
  rcases own_rem5 p1 with hk | hk | hk | hk | hk
  · have pre7 : own_Go p e below S0 (Tj2.setTop (mkF m 25 #[.val (.int p1), .val (.int p2), .val (.int p3), .val (.int p4), .val (.int p5), .val (.int 0), .val (.int y0), .val (.int y1), .val (.int y2), .val (.int y3), .unset, .unset, .unset] [])) := by
      intro t kt
      refine prej2 t ?_
      rw [hk]
      exact kt
    have pre8 : own_Go p e below S0 (Tj2.setTop (mkF m 27 #[.val (.int p1), .val (.int p2), .val (.int p3), .val (.int p4), .val (.int p5), .val (.int 0), .val (.int y0), .val (.int y1), .val (.int y2), .val (.int y3), .unset, .unset, .unset] [(.int 0)])) := by
      intro t kt
      refine pre7 t ?_
      refine XS.iload Xj2.here hx rfl (hb hby at_25) rfl ?_
      exact kt
    obtain ⟨T9, h9, k9, X9, e9, E9, A9, st9⟩ := newP Xj2 hx hZ (hw _ (own_w 1 rfl)) ej2 (g := (mkF m 27 #[.val (.int p1), .val (.int p2), .val (.int p3), .val (.int p4), .val (.int p5), .val (.int 0), .val (.int y0), .val (.int y1), .val (.int y2), .val (.int y3), .unset, .unset, .unset] [(.int 0)])) rfl (hb hby at_27) rfl (by decide) (cap := 0) (by decide) (by decide) (by decide) (by decide)
    obtain ⟨b9, g9⟩ : ∃ z, z = h0.size := ⟨_, rfl⟩
    rw [← g9] at A9 st9
    have ge10 : n0 ≤ b9 := Nat.le_trans Z0 (Nat.le_of_eq g9.symm)
    have sf11 : Safe Z own_EL s.vm h0 b9 := Safe.new (Nat.le_of_eq g9.symm)
    have zs12 : n0 ≤ h9.size := Nat.le_trans Z0 E9.1
    have ch13 : CHr Z own_EL s.vm h0 s.vm h9 := ch0.trans (CHr.ext E9 ch0.1)
    have sf14 : Safe Z own_EL s.vm h9 b9 := Safe.ext E9 ch0.1 sf11
    have V9 : Arv Z h9 b9 k9 .char (0 : Int32) [] (.int 0) := (Arv.new A9 (by decide)).pad (pad_rep [] (.int 0) 0)
    have pre15 : own_Go p e below S0 (T9.setTop (mkF m 78 #[.val (.int p1), .val (.int p2), .val (.int p3), .val (.int p4), .val (.int p5), .val (.int 0), .val (.int y0), .val (.int y1), .val (.int y2), .val (.int y3), .val (.ref b9), .unset, .unset] [])) := by
      intro t kt
      refine pre8 t ?_
      refine st9 _ ?_
      refine XS.astore X9.here hx rfl (hb hby at_29) rfl rfl (l' := #[.val (.int p1), .val (.int p2), .val (.int p3), .val (.int p4), .val (.int p5), .val (.int 0), .val (.int y0), .val (.int y1), .val (.int y2), .val (.int y3), .val (.ref b9), .unset, .unset]) rfl ?_
      refine XS.iload X9.here hx rfl (hb hby at_31) rfl ?_
      refine XS.ifYes X9.here hx rfl (pc0 := 33) (pc' := 42) rfl (hb hby at_33) rfl ((if0 _ _).trans (flt (by decide : ¬ ((0 : Int32) < (0 : Int32)))).2.2.2) (by decide) (by decide) ?_
      refine XS.iload X9.here hx rfl (hb hby at_42) rfl ?_
      refine XS.iconst X9.here hx rfl (hb hby at_44) ?_
      show Steps p.tables e below (T9.setTop (mkF m 45 #[.val (.int p1), .val (.int p2), .val (.int p3), .val (.int p4), .val (.int p5), .val (.int 0), .val (.int y0), .val (.int y1), .val (.int y2), .val (.int y3), .val (.ref b9), .unset, .unset] [(.int 1), (.int 0)])) _
      refine XS.icmpYes X9.here hx rfl (pc0 := 45) (pc' := 54) rfl (hb hby at_45) rfl (flt (by decide : ¬ ((1 : Int32) < (0 : Int32)))).2.2.2 (by decide) (by decide) ?_
      refine XS.iload X9.here hx rfl (hb hby at_54) rfl ?_
      refine XS.iconst X9.here hx rfl (hb hby at_56) ?_
      refine XS.icmpYes X9.here hx rfl (pc0 := 57) (pc' := 66) rfl (hb hby at_57) rfl (flt (by decide : ¬ ((2 : Int32) < (0 : Int32)))).2.2.2 (by decide) (by decide) ?_
      refine XS.iload X9.here hx rfl (hb hby at_66) rfl ?_
      refine XS.iconst X9.here hx rfl (hb hby at_68) ?_
      show Steps p.tables e below (T9.setTop (mkF m 69 #[.val (.int p1), .val (.int p2), .val (.int p3), .val (.int p4), .val (.int p5), .val (.int 0), .val (.int y0), .val (.int y1), .val (.int y2), .val (.int y3), .val (.ref b9), .unset, .unset] [(.int 3), (.int 0)])) _
      refine XS.icmpYes X9.here hx rfl (pc0 := 69) (pc' := 78) rfl (hb hby at_69) rfl (flt (by decide : ¬ ((3 : Int32) < (0 : Int32)))).2.2.2 (by decide) (by decide) ?_
      exact kt
    obtain ⟨T16, h16, X16, e16, E16, A16, D16, -, st16⟩ := newO X9 hx hZ hown (hw _ (own_w 2 rfl)) (hw _ (own_w 3 rfl)) (hw _ (own_w 4 rfl)) e9 (g := (mkF m 78 #[.val (.int p1), .val (.int p2), .val (.int p3), .val (.int p4), .val (.int p5), .val (.int 0), .val (.int y0), .val (.int y1), .val (.int y2), .val (.int y3), .val (.ref b9), .unset, .unset] [])) rfl (hb hby at_78) (by decide) (by decide)
    obtain ⟨b16, g16⟩ : ∃ z, z = h9.size := ⟨_, rfl⟩
    rw [← g16] at A16 D16 st16
    have ne17 : b9 ≠ b16 := Nat.ne_of_lt (Nat.lt_of_lt_of_le V9.lt (Nat.le_of_eq g16.symm))
    have ge18 : n0 ≤ b16 := Nat.le_trans zs12 (Nat.le_of_eq g16.symm)
    have sf19 : Safe Z own_EL s.vm h9 b16 := Safe.new (Nat.le_of_eq g16.symm)
    have zs20 : n0 ≤ h16.size := Nat.le_trans zs12 E16.1
    have ch21 : CHr Z own_EL s.vm h0 s.vm h16 := ch13.trans (CHr.ext E16 ch13.1)
    have sf22 : Safe Z own_EL s.vm h16 b9 := Safe.ext E16 ch13.1 sf14
    have sf23 : Safe Z own_EL s.vm h16 b16 := Safe.ext E16 ch13.1 sf19
    have fd24 : Fld Z h16 b16 "java/lang/String" "value" "[B" .null := D16 (Or.inr (hw _ (own_w 17 rfl))) (ty := (.array .byte)) (by decide)
    have fd25 : Fld Z h16 b16 "java/lang/String" "coder" "B" (.int 0) := D16 (Or.inr (hw _ (own_w 18 rfl))) (ty := .byte) (by decide)
    have pre26 : own_Go p e below S0 (T16.setTop (mkF m 84 #[.val (.int p1), .val (.int p2), .val (.int p3), .val (.int p4), .val (.int p5), .val (.int 0), .val (.int y0), .val (.int y1), .val (.int y2), .val (.int y3), .val (.ref b9), .unset, .unset] [(.ref b9), (.ref b16), (.ref b16)])) := by
      intro t kt
      refine pre15 t ?_
      refine st16 _ ?_
      refine XS.dup X16.here hx rfl (hb hby at_81) rfl rfl ?_
      refine XS.aload X16.here hx rfl (hb hby at_82) rfl rfl ?_
      exact kt
    have f27 : Old Z n0 h16 := ((O0.ext E9).ext E16)
    have f28 : Arv Z h16 b9 k9 .char (0 : Int32) [] (.int 0) := (V9.ext E16)
    obtain ⟨_, _, ⟨T29, L29, k29, n29⟩, -, X29, hSn29, hgn29, ⟨Lc29, hQ29, l29, y29, z29, cr29⟩, st29⟩ := X16.specialBackS hx (y := own_m3) rfl hown (mvT hZ (hw _ (own_w 5 rfl))) (mvT hZ (hw _ (own_w 6 rfl))) (mvT hZ (hw _ (own_w 7 rfl))) (by decide) (own_backH (s := s) (vm0 := s.vm) (W := 1) (rminit1_0 l Z a0 hw [] b16 b9 k9 h16 n0 zs20 f27 A16 fd24 fd25 ge18 f28) hZ (hw _ (own_w 7 rfl)) (hw _ (own_w 4 rfl)) (by decide) (by decide) (own_EW a0 Z hw) ch21.1 (allS sf23 all0) (allS A16.lt all0)) (g := (mkF m 84 #[.val (.int p1), .val (.int p2), .val (.int p3), .val (.int p4), .val (.int p5), .val (.int 0), .val (.int y0), .val (.int y1), .val (.int y2), .val (.int y3), .val (.ref b9), .unset, .unset] [(.ref b9), (.ref b16), (.ref b16)])) rfl (by rw [hml]; rfl) (Steps.refl _) (a := b16) (argsL := [(.ref b9)]) (rest := [(.ref b16)]) (lenOf pd_17 rfl) rfl (by show 2 * 0 + _ ≤ _; exact Nat.le_of_eq rfl) (hb hby at_84) (fun _ _ => ⟨rfl, e16, (by decide : 2 + 2 ≤ _), (by decide : 4 + 4 ≤ _)⟩)
    dsimp only [Pt.U, Pt.locs, Pt.cells, Pt.slots] at X29 l29 y29 z29 st29 hQ29 hSn29 hgn29 cr29
    subst l29 y29 z29
    have hown := own_fc hown hSn29.1
    have hZ : Z.Warmed39 (s.setVm T29.vm).vm := State.Warmed39.trans (t := s) hZ hSn29.1
    obtain ⟨vb30, kb31, rfl, Nq29, K29, g32⟩ := hQ29
    have N29 := Fr.app Nj2 Nq29
    have zs33 : n0 ≤ T29.heap.size := Nat.le_trans zs20 K29.1
    have ch34 : CHr Z own_EL s.vm h0 T29.vm T29.heap := ch21.trans (cr29)
    have sf35 : Safe Z own_EL T29.vm T29.heap b9 := cr29.safe f28.lt sf22
    have sf36 : Safe Z own_EL T29.vm T29.heap b16 := cr29.safe A16.lt sf23
    have pre37 : own_Go p e below S0 (T29.setTop (mkF m 161 #[.val (.int p1), .val (.int p2), .val (.int p3), .val (.int p4), .val (.int p5), .val (.int 0), .val (.int y0), .val (.int y1), .val (.int y2), .val (.int y3), .val (.ref b9), .val (.ref b16), .val (.int 0)] [(.ref b16)])) := by
      intro t kt
      refine pre26 t ?_
      refine st29.trans ?_
      show Steps p.tables e below (T29.setTop (mkF m 87 #[.val (.int p1), .val (.int p2), .val (.int p3), .val (.int p4), .val (.int p5), .val (.int 0), .val (.int y0), .val (.int y1), .val (.int y2), .val (.int y3), .val (.ref b9), .unset, .unset] [(.ref b16)])) _
      refine XS.astore X29.here hx rfl (hb hby at_87) rfl rfl (l' := #[.val (.int p1), .val (.int p2), .val (.int p3), .val (.int p4), .val (.int p5), .val (.int 0), .val (.int y0), .val (.int y1), .val (.int y2), .val (.int y3), .val (.ref b9), .val (.ref b16), .unset]) rfl ?_
      refine XS.iconst X29.here hx rfl (hb hby at_89) ?_
      refine XS.istore X29.here hx rfl (hb hby at_90) rfl (l' := #[.val (.int p1), .val (.int p2), .val (.int p3), .val (.int p4), .val (.int p5), .val (.int 0), .val (.int y0), .val (.int y1), .val (.int y2), .val (.int y3), .val (.ref b9), .val (.ref b16), .val (.int 0)]) rfl ?_
      refine XS.iload X29.here hx rfl (hb hby at_92) rfl ?_
      refine XS.ifYes X29.here hx rfl (pc0 := 94) (pc' := 108) rfl (hb hby at_94) rfl ((if0 _ _).trans (flt (by decide : ¬ ((0 : Int32) < (0 : Int32)))).2.2.2) (by decide) (by decide) ?_
      show Steps p.tables e below (T29.setTop (mkF m 108 #[.val (.int p1), .val (.int p2), .val (.int p3), .val (.int p4), .val (.int p5), .val (.int 0), .val (.int y0), .val (.int y1), .val (.int y2), .val (.int y3), .val (.ref b9), .val (.ref b16), .val (.int 0)] [])) _
      refine XS.iload X29.here hx rfl (hb hby at_108) rfl ?_
      refine XS.iconst X29.here hx rfl (hb hby at_110) ?_
      refine XS.icmpYes X29.here hx rfl (pc0 := 111) (pc' := 125) rfl (hb hby at_111) rfl (flt (by decide : ¬ ((1 : Int32) < (0 : Int32)))).2.2.2 (by decide) (by decide) ?_
      refine XS.iload X29.here hx rfl (hb hby at_125) rfl ?_
      refine XS.iconst X29.here hx rfl (hb hby at_127) ?_
      refine XS.icmpYes X29.here hx rfl (pc0 := 128) (pc' := 142) rfl (hb hby at_128) rfl (flt (by decide : ¬ ((2 : Int32) < (0 : Int32)))).2.2.2 (by decide) (by decide) ?_
      show Steps p.tables e below (T29.setTop (mkF m 142 #[.val (.int p1), .val (.int p2), .val (.int p3), .val (.int p4), .val (.int p5), .val (.int 0), .val (.int y0), .val (.int y1), .val (.int y2), .val (.int y3), .val (.ref b9), .val (.ref b16), .val (.int 0)] [])) _
      refine XS.iload X29.here hx rfl (hb hby at_142) rfl ?_
      refine XS.iconst X29.here hx rfl (hb hby at_144) ?_
      refine XS.icmpYes X29.here hx rfl (pc0 := 145) (pc' := 159) rfl (hb hby at_145) rfl (flt (by decide : ¬ ((3 : Int32) < (0 : Int32)))).2.2.2 (by decide) (by decide) ?_
      refine XS.aload X29.here hx rfl (hb hby at_159) rfl rfl ?_
      exact kt
    have f38 : Old Z n0 T29.heap := (f27.keep K29 (allS ge18 all0))
    obtain ⟨_, _, ⟨T39, L39, k39, n39⟩, -, X39, ⟨Lc39, hQ39, l39, y39, z39⟩, st39⟩ := Jvm.LawKit.callS X29 hx (y := own_m0) hown (mvT hZ (hw _ (own_w 23 rfl))) (mvT hZ (hw _ (own_w 24 rfl))) (mvT hZ (hw _ (own_w 25 rfl))) (mvT hZ (hw _ (own_w 26 rfl))) (by decide) (backOf (W := 0) (rmany0 l Z a0 hw [] b16 wC wF vb30 kb31 T29.heap n0 zs33 f38 qC qU qF g32) hZ (hw _ (own_w 26 rfl)) (hw _ (own_w 25 rfl)) (by decide) (by decide)) (g := (mkF m 161 #[.val (.int p1), .val (.int p2), .val (.int p3), .val (.int p4), .val (.int p5), .val (.int 0), .val (.int y0), .val (.int y1), .val (.int y2), .val (.int y3), .val (.ref b9), .val (.ref b16), .val (.int 0)] [(.ref b16)])) rfl (by rw [hml]; rfl) (argsL := [(.ref b16)]) (rest := []) (lenOf pd_18 rfl) rfl (by show 2 * 0 + _ ≤ _; exact Nat.le_of_eq rfl) (hb hby at_161) (fun _ _ => ⟨rfl, rfl, (by decide : 4 + 0 ≤ _), (by decide : 8 + 0 ≤ _)⟩)
    dsimp only [Pt.U, Pt.locs, Pt.cells, Pt.slots] at X39 l39 y39 z39 st39 hQ39
    subst l39 y39 z39
    obtain ⟨rfl, Nq39, eq39⟩ := hQ39
    have N39 := Fr.app N29 Nq39
    have pre40 : own_Go p e below S0 (T39.setTop (mkF m 174 #[.val (.int p1), .val (.int p2), .val (.int p3), .val (.int p4), .val (.int p5), .val (.int 0), .val (.int y0), .val (.int y1), .val (.int y2), .val (.int y3), .val (.ref b9), .val (.ref b16), .val (.int 0)] [(.int 1)])) := by
      intro t kt
      refine pre37 t ?_
      refine st39 _ ?_
      show Steps p.tables e below (T39.setTop (mkF m 164 #[.val (.int p1), .val (.int p2), .val (.int p3), .val (.int p4), .val (.int p5), .val (.int 0), .val (.int y0), .val (.int y1), .val (.int y2), .val (.int y3), .val (.ref b9), .val (.ref b16), .val (.int 0)] [(.int 0)])) _
      refine XS.iload X39.here hx rfl (hb hby at_164) rfl ?_
      refine XS.icmpNo X39.here hx rfl (hb hby at_166) rfl (teq (by decide : (0 : Int32) = (0 : Int32))).2 ?_
      refine XS.iconst X39.here hx rfl (hb hby at_169) ?_
      refine XS.goto X39.here hx rfl (pc0 := 170) (pc' := 174) rfl (hb hby at_170) (by decide) (by decide) ?_
      exact kt
    obtain ⟨fs, hr, hrun, hended, hRW⟩ := Stand.leaveW (s := s) (vm₁ := T29.vm) X39 hSn29 (by rw [eq39]; exact (Nat.le_refl _)) (v := some (.int 1)) (fun h => by rw [Bd.returns] at h; cases h)
    refine ⟨_, _, fin _ (pre40 _ ?_), hrun, hended, _, _, rfl, ?_, own_wideMono hRW (by decide) (by decide)⟩
    · exact retN X39 hx (t := .boolean) Bd.returns (by simp) (hb hby at_174) hr
    · show Q0 Z p1 p2 p3 p4 p5 wC wF h0 n0 _ T39.heap _
      rw [eq39]
      exact ⟨rfl, N39⟩
  · have pre41 : own_Go p e below S0 (Tj2.setTop (mkF m 25 #[.val (.int p1), .val (.int p2), .val (.int p3), .val (.int p4), .val (.int p5), .val (.int 1), .val (.int y0), .val (.int y1), .val (.int y2), .val (.int y3), .unset, .unset, .unset] [])) := by
      intro t kt
      refine prej2 t ?_
      rw [hk]
      exact kt
    have pre42 : own_Go p e below S0 (Tj2.setTop (mkF m 27 #[.val (.int p1), .val (.int p2), .val (.int p3), .val (.int p4), .val (.int p5), .val (.int 1), .val (.int y0), .val (.int y1), .val (.int y2), .val (.int y3), .unset, .unset, .unset] [(.int 1)])) := by
      intro t kt
      refine pre41 t ?_
      refine XS.iload Xj2.here hx rfl (hb hby at_25) rfl ?_
      exact kt
    obtain ⟨T43, h43, k43, X43, e43, E43, A43, st43⟩ := newP Xj2 hx hZ (hw _ (own_w 1 rfl)) ej2 (g := (mkF m 27 #[.val (.int p1), .val (.int p2), .val (.int p3), .val (.int p4), .val (.int p5), .val (.int 1), .val (.int y0), .val (.int y1), .val (.int y2), .val (.int y3), .unset, .unset, .unset] [(.int 1)])) rfl (hb hby at_27) rfl (by decide) (cap := 1) (by decide) (by decide) (by decide) (by decide)
    obtain ⟨b43, g43⟩ : ∃ z, z = h0.size := ⟨_, rfl⟩
    rw [← g43] at A43 st43
    have ge44 : n0 ≤ b43 := Nat.le_trans Z0 (Nat.le_of_eq g43.symm)
    have zs45 : n0 ≤ h43.size := Nat.le_trans Z0 E43.1
    have V43 : Arv Z h43 b43 k43 .char (1 : Int32) [(.int 0)] (.int 0) := (Arv.new A43 (by decide)).pad (pad_rep [] (.int 0) 1)
    have pre46 : own_Go p e below S0 (T43.setTop (mkF m 41 #[.val (.int p1), .val (.int p2), .val (.int p3), .val (.int p4), .val (.int p5), .val (.int 1), .val (.int y0), .val (.int y1), .val (.int y2), .val (.int y3), .val (.ref b43), .unset, .unset] [(.int y0), (.int 0), (.ref b43)])) := by
      intro t kt
      refine pre42 t ?_
      refine st43 _ ?_
      refine XS.astore X43.here hx rfl (hb hby at_29) rfl rfl (l' := #[.val (.int p1), .val (.int p2), .val (.int p3), .val (.int p4), .val (.int p5), .val (.int 1), .val (.int y0), .val (.int y1), .val (.int y2), .val (.int y3), .val (.ref b43), .unset, .unset]) rfl ?_
      refine XS.iload X43.here hx rfl (hb hby at_31) rfl ?_
      refine XS.ifNo X43.here hx rfl (hb hby at_33) rfl ((if0 _ _).trans (tlt (by decide : (0 : Int32) < (1 : Int32))).2.2.2) ?_
      refine XS.aload X43.here hx rfl (hb hby at_36) rfl rfl ?_
      refine XS.iconst X43.here hx rfl (hb hby at_38) ?_
      show Steps p.tables e below (T43.setTop (mkF m 39 #[.val (.int p1), .val (.int p2), .val (.int p3), .val (.int p4), .val (.int p5), .val (.int 1), .val (.int y0), .val (.int y1), .val (.int y2), .val (.int y3), .val (.ref b43), .unset, .unset] [(.int 0), (.ref b43)])) _
      refine XS.iload X43.here hx rfl (hb hby at_39) rfl ?_
      exact kt
    obtain ⟨cl47, Ar47, q47, Sz47, Ng47, Hs47, Gt47⟩ := id V43
    have hin47 : ¬ ((0 : Int32) < 0 ∨ cl47.slots.size ≤ ((0 : Int32)).toNatClampNeg) := inb_of Sz47 ⟨by decide, by decide⟩
    obtain ⟨T47, h47, X47, e47, W47, st47⟩ := stC X43 hx hZ e43 Ar47 (j := (0 : Int32)) hin47 (g := (mkF m 41 #[.val (.int p1), .val (.int p2), .val (.int p3), .val (.int p4), .val (.int p5), .val (.int 1), .val (.int y0), .val (.int y1), .val (.int y2), .val (.int y3), .val (.ref b43), .unset, .unset] [(.int y0), (.int 0), (.ref b43)])) rfl rfl (hb hby at_41)
    have N47 := Fr.snoc X47 Nj2 ge44
    have zs48 : n0 ≤ h47.size := Nat.le_trans zs45 (Keep.of_wr W47).1
    have V47 : Arv Z h47 b43 k43 .char (1 : Int32) [(.int (nar .char y0))] (.int 0) := Arv.set Ar47 q47 Sz47 Ng47 Hs47 Gt47 (fits_nar_char _) W47 0 rfl (Nat.le_of_ble_eq_true rfl)
    have pre49 : own_Go p e below S0 (T47.setTop (mkF m 78 #[.val (.int p1), .val (.int p2), .val (.int p3), .val (.int p4), .val (.int p5), .val (.int 1), .val (.int y0), .val (.int y1), .val (.int y2), .val (.int y3), .val (.ref b43), .unset, .unset] [])) := by
      intro t kt
      refine pre46 t ?_
      refine st47 _ ?_
      refine XS.iload X47.here hx rfl (hb hby at_42) rfl ?_
      refine XS.iconst X47.here hx rfl (hb hby at_44) ?_
      refine XS.icmpYes X47.here hx rfl (pc0 := 45) (pc' := 54) rfl (hb hby at_45) rfl (flt (by decide : ¬ ((1 : Int32) < (1 : Int32)))).2.2.2 (by decide) (by decide) ?_
      refine XS.iload X47.here hx rfl (hb hby at_54) rfl ?_
      refine XS.iconst X47.here hx rfl (hb hby at_56) ?_
      show Steps p.tables e below (T47.setTop (mkF m 57 #[.val (.int p1), .val (.int p2), .val (.int p3), .val (.int p4), .val (.int p5), .val (.int 1), .val (.int y0), .val (.int y1), .val (.int y2), .val (.int y3), .val (.ref b43), .unset, .unset] [(.int 2), (.int 1)])) _
      refine XS.icmpYes X47.here hx rfl (pc0 := 57) (pc' := 66) rfl (hb hby at_57) rfl (flt (by decide : ¬ ((2 : Int32) < (1 : Int32)))).2.2.2 (by decide) (by decide) ?_
      refine XS.iload X47.here hx rfl (hb hby at_66) rfl ?_
      refine XS.iconst X47.here hx rfl (hb hby at_68) ?_
      refine XS.icmpYes X47.here hx rfl (pc0 := 69) (pc' := 78) rfl (hb hby at_69) rfl (flt (by decide : ¬ ((3 : Int32) < (1 : Int32)))).2.2.2 (by decide) (by decide) ?_
      exact kt
    obtain ⟨T50, h50, X50, e50, E50, A50, D50, -, st50⟩ := newO X47 hx hZ hown (hw _ (own_w 2 rfl)) (hw _ (own_w 3 rfl)) (hw _ (own_w 4 rfl)) e47 (g := (mkF m 78 #[.val (.int p1), .val (.int p2), .val (.int p3), .val (.int p4), .val (.int p5), .val (.int 1), .val (.int y0), .val (.int y1), .val (.int y2), .val (.int y3), .val (.ref b43), .unset, .unset] [])) rfl (hb hby at_78) (by decide) (by decide)
    obtain ⟨b50, g50⟩ : ∃ z, z = h47.size := ⟨_, rfl⟩
    rw [← g50] at A50 D50 st50
    have ne51 : b43 ≠ b50 := Nat.ne_of_lt (Nat.lt_of_lt_of_le V47.lt (Nat.le_of_eq g50.symm))
    have ge52 : n0 ≤ b50 := Nat.le_trans zs48 (Nat.le_of_eq g50.symm)
    have zs53 : n0 ≤ h50.size := Nat.le_trans zs48 E50.1
    have fd54 : Fld Z h50 b50 "java/lang/String" "value" "[B" .null := D50 (Or.inr (hw _ (own_w 17 rfl))) (ty := (.array .byte)) (by decide)
    have fd55 : Fld Z h50 b50 "java/lang/String" "coder" "B" (.int 0) := D50 (Or.inr (hw _ (own_w 18 rfl))) (ty := .byte) (by decide)
    have pre56 : own_Go p e below S0 (T50.setTop (mkF m 84 #[.val (.int p1), .val (.int p2), .val (.int p3), .val (.int p4), .val (.int p5), .val (.int 1), .val (.int y0), .val (.int y1), .val (.int y2), .val (.int y3), .val (.ref b43), .unset, .unset] [(.ref b43), (.ref b50), (.ref b50)])) := by
      intro t kt
      refine pre49 t ?_
      refine st50 _ ?_
      refine XS.dup X50.here hx rfl (hb hby at_81) rfl rfl ?_
      refine XS.aload X50.here hx rfl (hb hby at_82) rfl rfl ?_
      exact kt
    have f57 : Old Z n0 h50 := (((O0.ext E43).wr W47 ge44).ext E50)
    have f58 : Arv Z h50 b43 k43 .char (1 : Int32) [(.int (nar .char y0))] (.int 0) := (V47.ext E50)
    obtain ⟨_, _, ⟨T59, L59, k59, n59⟩, -, X59, ⟨Lc59, hQ59, l59, y59, z59⟩, st59⟩ := X50.specialBack hx (y := own_m3) rfl hown (mvT hZ (hw _ (own_w 5 rfl))) (mvT hZ (hw _ (own_w 6 rfl))) (mvT hZ (hw _ (own_w 7 rfl))) (by decide) (backOf (W := 1) (rminit1_1 l Z a0 hw [] b50 b43 k43 (nar .char y0) wC h50 n0 zs53 f57 qC qU A50 fd54 fd55 ge52 f58) hZ (hw _ (own_w 7 rfl)) (hw _ (own_w 4 rfl)) (by decide) (by decide)) (g := (mkF m 84 #[.val (.int p1), .val (.int p2), .val (.int p3), .val (.int p4), .val (.int p5), .val (.int 1), .val (.int y0), .val (.int y1), .val (.int y2), .val (.int y3), .val (.ref b43), .unset, .unset] [(.ref b43), (.ref b50), (.ref b50)])) rfl (by rw [hml]; rfl) (Steps.refl _) (a := b50) (argsL := [(.ref b43)]) (rest := [(.ref b50)]) (lenOf pd_17 rfl) rfl (by show 2 * 0 + _ ≤ _; exact Nat.le_of_eq rfl) (hb hby at_84) (fun _ _ => ⟨rfl, e50, (by decide : 2 + 2 ≤ _), (by decide : 5 + 3 ≤ _)⟩)
    dsimp only [Pt.U, Pt.locs, Pt.cells, Pt.slots] at X59 l59 y59 z59 st59 hQ59
    subst l59 y59 z59
    obtain ⟨vb60, kb61, rfl, Nq59, K59, g62, g63⟩ := hQ59
    have N59 := Fr.app N47 Nq59
    have ne64 : b43 ≠ vb60 := Nat.ne_of_lt (Nat.lt_of_lt_of_le f58.lt g62)
    have ne65 : b50 ≠ vb60 := Nat.ne_of_lt (Nat.lt_of_lt_of_le A50.lt g62)
    have ge66 : n0 ≤ vb60 := Nat.le_trans zs53 g62
    have zs67 : n0 ≤ T59.heap.size := Nat.le_trans zs53 K59.1
    have pre68 : own_Go p e below S0 (T59.setTop (mkF m 92 #[.val (.int p1), .val (.int p2), .val (.int p3), .val (.int p4), .val (.int p5), .val (.int 1), .val (.int y0), .val (.int y1), .val (.int y2), .val (.int y3), .val (.ref b43), .val (.ref b50), .val (.int 0)] [])) := by
      intro t kt
      refine pre56 t ?_
      refine st59.trans ?_
      show Steps p.tables e below (T59.setTop (mkF m 87 #[.val (.int p1), .val (.int p2), .val (.int p3), .val (.int p4), .val (.int p5), .val (.int 1), .val (.int y0), .val (.int y1), .val (.int y2), .val (.int y3), .val (.ref b43), .unset, .unset] [(.ref b50)])) _
      refine XS.astore X59.here hx rfl (hb hby at_87) rfl rfl (l' := #[.val (.int p1), .val (.int p2), .val (.int p3), .val (.int p4), .val (.int p5), .val (.int 1), .val (.int y0), .val (.int y1), .val (.int y2), .val (.int y3), .val (.ref b43), .val (.ref b50), .unset]) rfl ?_
      refine XS.iconst X59.here hx rfl (hb hby at_89) ?_
      refine XS.istore X59.here hx rfl (hb hby at_90) rfl (l' := #[.val (.int p1), .val (.int p2), .val (.int p3), .val (.int p4), .val (.int p5), .val (.int 1), .val (.int y0), .val (.int y1), .val (.int y2), .val (.int y3), .val (.ref b43), .val (.ref b50), .val (.int 0)]) rfl ?_
      exact kt
    obtain ⟨Tj69, lj69, Xj69, Nj69, ej69, prej69⟩ : ∃ (Tj69 : State) (lj69 : List Loc), Stand p l e room_1 s m #[(.int p1), (.int p2), (.int p3), (.int p4), (.int p5)] below meth c Tj69 lj69 4 8 ∧ Fr n0 lj69 ∧ Tj69.heap = T59.heap ∧ own_Go p e below S0 (Tj69.setTop (mkF m 108 #[.val (.int p1), .val (.int p2), .val (.int p3), .val (.int p4), .val (.int p5), .val (.int 1), .val (.int y0), .val (.int y1), .val (.int y2), .val (.int y3), .val (.ref b43), .val (.ref b50), .val (.int (own_e (0 : Int32) y0))] [])) := by
      have pre70 : own_Go p e below S0 (T59.setTop (mkF m 99 #[.val (.int p1), .val (.int p2), .val (.int p3), .val (.int p4), .val (.int p5), .val (.int 1), .val (.int y0), .val (.int y1), .val (.int y2), .val (.int y3), .val (.ref b43), .val (.ref b50), .val (.int 0)] [(.int y0)])) := by
        intro t kt
        refine pre68 t ?_
        refine XS.iload X59.here hx rfl (hb hby at_92) rfl ?_
        refine XS.ifNo X59.here hx rfl (hb hby at_94) rfl ((if0 _ _).trans (tlt (by decide : (0 : Int32) < (1 : Int32))).2.2.2) ?_
        refine XS.iload X59.here hx rfl (hb hby at_97) rfl ?_
        exact kt
      obtain ⟨_, _, ⟨T71, L71, k71, n71⟩, -, X71, ⟨Lc71, hQ71, l71, y71, z71⟩, st71⟩ := Jvm.LawKit.callS X59 hx (y := own_m2) hown (mvT hZ (hw _ (own_w 48 rfl))) (mvT hZ (hw _ (own_w 49 rfl))) (mvT hZ (hw _ (own_w 50 rfl))) (mvT hZ (hw _ (own_w 51 rfl))) (by decide) (backOf (W := 0) (rm10 l Z a0 hw [] y0 T59.heap n0 zs67 ) hZ (hw _ (own_w 51 rfl)) (hw _ (own_w 50 rfl)) (by decide) (by decide)) (g := (mkF m 99 #[.val (.int p1), .val (.int p2), .val (.int p3), .val (.int p4), .val (.int p5), .val (.int 1), .val (.int y0), .val (.int y1), .val (.int y2), .val (.int y3), .val (.ref b43), .val (.ref b50), .val (.int 0)] [(.int y0)])) rfl (by rw [hml]; rfl) (argsL := [(.int y0)]) (rest := []) (lenOf pd_16 rfl) rfl (by show 2 * 0 + _ ≤ _; exact Nat.le_of_eq rfl) (hb hby at_99) (fun _ _ => ⟨rfl, rfl, (by decide : 4 + 0 ≤ _), (by decide : 8 + 0 ≤ _)⟩)
      dsimp only [Pt.U, Pt.locs, Pt.cells, Pt.slots] at X71 l71 y71 z71 st71 hQ71
      subst l71 y71 z71
      obtain ⟨rfl, Nq71, eq71⟩ := hQ71
      have N71 := Fr.app N59 Nq71
      have pre73 : own_Go p e below S0 (T71.setTop (mkF m 102 #[.val (.int p1), .val (.int p2), .val (.int p3), .val (.int p4), .val (.int p5), .val (.int 1), .val (.int y0), .val (.int y1), .val (.int y2), .val (.int y3), .val (.ref b43), .val (.ref b50), .val (.int 0)] [(.int (own_ctl y0))])) := by
        intro t kt
        refine pre70 t ?_
        refine st71 _ ?_
        show Steps p.tables e below (T71.setTop (mkF m 102 #[.val (.int p1), .val (.int p2), .val (.int p3), .val (.int p4), .val (.int p5), .val (.int 1), .val (.int y0), .val (.int y1), .val (.int y2), .val (.int y3), .val (.ref b43), .val (.ref b50), .val (.int 0)] [(.int (own_ctl y0))])) _
        exact kt
      by_cases hc72 : (own_ctl y0) = (0 : Int32)
      · have pre74 : own_Go p e below S0 (T71.setTop (mkF m 108 #[.val (.int p1), .val (.int p2), .val (.int p3), .val (.int p4), .val (.int p5), .val (.int 1), .val (.int y0), .val (.int y1), .val (.int y2), .val (.int y3), .val (.ref b43), .val (.ref b50), .val (.int 0)] [])) := by
          intro t kt
          refine pre73 t ?_
          refine XS.ifYes X71.here hx rfl (pc0 := 102) (pc' := 108) rfl (hb hby at_102) rfl ((if0 _ _).trans (teq hc72).1) (by decide) (by decide) ?_
          exact kt
        have pre75 : own_Go p e below S0 (T71.setTop (mkF m 108 #[.val (.int p1), .val (.int p2), .val (.int p3), .val (.int p4), .val (.int p5), .val (.int 1), .val (.int y0), .val (.int y1), .val (.int y2), .val (.int y3), .val (.ref b43), .val (.ref b50), .val (.int (own_e (0 : Int32) y0))] [])) := by
          intro t kt
          refine pre74 t ?_
          exact castTop (by rw [own_eA (p := (0 : Int32)) hc72]) kt
        exact ⟨T71, _, (Stand.mono X71 (by decide) (by decide)), N71, eq71, pre75⟩
      · have pre76 : own_Go p e below S0 (T71.setTop (mkF m 108 #[.val (.int p1), .val (.int p2), .val (.int p3), .val (.int p4), .val (.int p5), .val (.int 1), .val (.int y0), .val (.int y1), .val (.int y2), .val (.int y3), .val (.ref b43), .val (.ref b50), .val (.int 1)] [])) := by
          intro t kt
          refine pre73 t ?_
          refine XS.ifNo X71.here hx rfl (hb hby at_102) rfl ((if0 _ _).trans (feq hc72).1) ?_
          refine XS.iconst X71.here hx rfl (hb hby at_105) ?_
          refine XS.istore X71.here hx rfl (hb hby at_106) rfl (l' := #[.val (.int p1), .val (.int p2), .val (.int p3), .val (.int p4), .val (.int p5), .val (.int 1), .val (.int y0), .val (.int y1), .val (.int y2), .val (.int y3), .val (.ref b43), .val (.ref b50), .val (.int 1)]) rfl ?_
          exact kt
        have pre77 : own_Go p e below S0 (T71.setTop (mkF m 108 #[.val (.int p1), .val (.int p2), .val (.int p3), .val (.int p4), .val (.int p5), .val (.int 1), .val (.int y0), .val (.int y1), .val (.int y2), .val (.int y3), .val (.ref b43), .val (.ref b50), .val (.int (own_e (0 : Int32) y0))] [])) := by
          intro t kt
          refine pre76 t ?_
          exact castTop (by rw [own_eB (p := (0 : Int32)) hc72]) kt
        exact ⟨T71, _, (Stand.mono X71 (by decide) (by decide)), N71, eq71, pre77⟩
    have pre78 : own_Go p e below S0 (Tj69.setTop (mkF m 161 #[.val (.int p1), .val (.int p2), .val (.int p3), .val (.int p4), .val (.int p5), .val (.int 1), .val (.int y0), .val (.int y1), .val (.int y2), .val (.int y3), .val (.ref b43), .val (.ref b50), .val (.int (own_e (0 : Int32) y0))] [(.ref b50)])) := by
      intro t kt
      refine prej69 t ?_
      refine XS.iload Xj69.here hx rfl (hb hby at_108) rfl ?_
      refine XS.iconst Xj69.here hx rfl (hb hby at_110) ?_
      refine XS.icmpYes Xj69.here hx rfl (pc0 := 111) (pc' := 125) rfl (hb hby at_111) rfl (flt (by decide : ¬ ((1 : Int32) < (1 : Int32)))).2.2.2 (by decide) (by decide) ?_
      refine XS.iload Xj69.here hx rfl (hb hby at_125) rfl ?_
      refine XS.iconst Xj69.here hx rfl (hb hby at_127) ?_
      refine XS.icmpYes Xj69.here hx rfl (pc0 := 128) (pc' := 142) rfl (hb hby at_128) rfl (flt (by decide : ¬ ((2 : Int32) < (1 : Int32)))).2.2.2 (by decide) (by decide) ?_
      show Steps p.tables e below (Tj69.setTop (mkF m 142 #[.val (.int p1), .val (.int p2), .val (.int p3), .val (.int p4), .val (.int p5), .val (.int 1), .val (.int y0), .val (.int y1), .val (.int y2), .val (.int y3), .val (.ref b43), .val (.ref b50), .val (.int (own_e (0 : Int32) y0))] [])) _
      refine XS.iload Xj69.here hx rfl (hb hby at_142) rfl ?_
      refine XS.iconst Xj69.here hx rfl (hb hby at_144) ?_
      refine XS.icmpYes Xj69.here hx rfl (pc0 := 145) (pc' := 159) rfl (hb hby at_145) rfl (flt (by decide : ¬ ((3 : Int32) < (1 : Int32)))).2.2.2 (by decide) (by decide) ?_
      refine XS.aload Xj69.here hx rfl (hb hby at_159) rfl rfl ?_
      exact kt
    have f79 : Old Z n0 T59.heap := (f57.keep K59 (allS ge52 all0))
    obtain ⟨_, _, ⟨T80, L80, k80, n80⟩, -, X80, ⟨Lc80, hQ80, l80, y80, z80⟩, st80⟩ := Jvm.LawKit.callS Xj69 hx (y := own_m0) hown (mvT hZ (hw _ (own_w 23 rfl))) (mvT hZ (hw _ (own_w 24 rfl))) (mvT hZ (hw _ (own_w 25 rfl))) (mvT hZ (hw _ (own_w 26 rfl))) (by decide) (backOf (W := 0) (rmany1 l Z a0 hw [] b50 wC wF vb60 kb61 (nar .char y0) T59.heap n0 zs67 f79 qC qU qF g63) hZ (hw _ (own_w 26 rfl)) (hw _ (own_w 25 rfl)) (by decide) (by decide)) (g := (mkF m 161 #[.val (.int p1), .val (.int p2), .val (.int p3), .val (.int p4), .val (.int p5), .val (.int 1), .val (.int y0), .val (.int y1), .val (.int y2), .val (.int y3), .val (.ref b43), .val (.ref b50), .val (.int (own_e (0 : Int32) y0))] [(.ref b50)])) rfl (by rw [hml]; rfl) (argsL := [(.ref b50)]) (rest := []) (lenOf pd_18 rfl) rfl (by show 2 * 0 + _ ≤ _; exact Nat.le_of_eq rfl) (hb hby at_161) (fun _ _ => ⟨rfl, ej69, (by decide : 4 + 0 ≤ _), (by decide : 8 + 0 ≤ _)⟩)
    dsimp only [Pt.U, Pt.locs, Pt.cells, Pt.slots] at X80 l80 y80 z80 st80 hQ80
    subst l80 y80 z80
    obtain ⟨rfl, Nq80, eq80⟩ := hQ80
    have N80 := Fr.app Nj69 Nq80
    have pre81 : own_Go p e below S0 (T80.setTop (mkF m 174 #[.val (.int p1), .val (.int p2), .val (.int p3), .val (.int p4), .val (.int p5), .val (.int 1), .val (.int y0), .val (.int y1), .val (.int y2), .val (.int y3), .val (.ref b43), .val (.ref b50), .val (.int (own_e (0 : Int32) y0))] [(.int 1)])) := by
      intro t kt
      refine pre78 t ?_
      refine st80 _ ?_
      show Steps p.tables e below (T80.setTop (mkF m 164 #[.val (.int p1), .val (.int p2), .val (.int p3), .val (.int p4), .val (.int p5), .val (.int 1), .val (.int y0), .val (.int y1), .val (.int y2), .val (.int y3), .val (.ref b43), .val (.ref b50), .val (.int (own_e (0 : Int32) y0))] [(.int (own_any1 (nar .char y0)))])) _
      refine XS.iload X80.here hx rfl (hb hby at_164) rfl ?_
      refine XS.icmpNo X80.here hx rfl (hb hby at_166) rfl (teq ((own_anyE1 _).trans (by rw [pj3]))).2 ?_
      refine XS.iconst X80.here hx rfl (hb hby at_169) ?_
      refine XS.goto X80.here hx rfl (pc0 := 170) (pc' := 174) rfl (hb hby at_170) (by decide) (by decide) ?_
      exact kt
    obtain ⟨fs, hr, hrun, hended, hW, hsame⟩ := X80.leave (v := some (.int 1)) (fun h => by rw [Bd.returns] at h; cases h)
    refine ⟨_, _, fin _ (pre81 _ ?_), hrun, hended, _, _, rfl, ?_, own_wideMono (ReturnedEndW.of_narrow ⟨_, rfl⟩ hW hsame) (by decide) (by decide)⟩
    · exact retN X80 hx (t := .boolean) Bd.returns (by simp) (hb hby at_174) hr
    · show Q0 Z p1 p2 p3 p4 p5 wC wF h0 n0 _ T80.heap _
      rw [eq80]
      exact ⟨rfl, N80⟩
  · have pre82 : own_Go p e below S0 (Tj2.setTop (mkF m 25 #[.val (.int p1), .val (.int p2), .val (.int p3), .val (.int p4), .val (.int p5), .val (.int 2), .val (.int y0), .val (.int y1), .val (.int y2), .val (.int y3), .unset, .unset, .unset] [])) := by
      intro t kt
      refine prej2 t ?_
      rw [hk]
      exact kt
    have pre83 : own_Go p e below S0 (Tj2.setTop (mkF m 27 #[.val (.int p1), .val (.int p2), .val (.int p3), .val (.int p4), .val (.int p5), .val (.int 2), .val (.int y0), .val (.int y1), .val (.int y2), .val (.int y3), .unset, .unset, .unset] [(.int 2)])) := by
      intro t kt
      refine pre82 t ?_
      refine XS.iload Xj2.here hx rfl (hb hby at_25) rfl ?_
      exact kt
    obtain ⟨T84, h84, k84, X84, e84, E84, A84, st84⟩ := newP Xj2 hx hZ (hw _ (own_w 1 rfl)) ej2 (g := (mkF m 27 #[.val (.int p1), .val (.int p2), .val (.int p3), .val (.int p4), .val (.int p5), .val (.int 2), .val (.int y0), .val (.int y1), .val (.int y2), .val (.int y3), .unset, .unset, .unset] [(.int 2)])) rfl (hb hby at_27) rfl (by decide) (cap := 2) (by decide) (by decide) (by decide) (by decide)
    obtain ⟨b84, g84⟩ : ∃ z, z = h0.size := ⟨_, rfl⟩
    rw [← g84] at A84 st84
    have ge85 : n0 ≤ b84 := Nat.le_trans Z0 (Nat.le_of_eq g84.symm)
    have zs86 : n0 ≤ h84.size := Nat.le_trans Z0 E84.1
    have V84 : Arv Z h84 b84 k84 .char (2 : Int32) [(.int 0), (.int 0)] (.int 0) := (Arv.new A84 (by decide)).pad (pad_rep [] (.int 0) 2)
    have pre87 : own_Go p e below S0 (T84.setTop (mkF m 41 #[.val (.int p1), .val (.int p2), .val (.int p3), .val (.int p4), .val (.int p5), .val (.int 2), .val (.int y0), .val (.int y1), .val (.int y2), .val (.int y3), .val (.ref b84), .unset, .unset] [(.int y0), (.int 0), (.ref b84)])) := by
      intro t kt
      refine pre83 t ?_
      refine st84 _ ?_
      refine XS.astore X84.here hx rfl (hb hby at_29) rfl rfl (l' := #[.val (.int p1), .val (.int p2), .val (.int p3), .val (.int p4), .val (.int p5), .val (.int 2), .val (.int y0), .val (.int y1), .val (.int y2), .val (.int y3), .val (.ref b84), .unset, .unset]) rfl ?_
      refine XS.iload X84.here hx rfl (hb hby at_31) rfl ?_
      refine XS.ifNo X84.here hx rfl (hb hby at_33) rfl ((if0 _ _).trans (tlt (by decide : (0 : Int32) < (2 : Int32))).2.2.2) ?_
      refine XS.aload X84.here hx rfl (hb hby at_36) rfl rfl ?_
      refine XS.iconst X84.here hx rfl (hb hby at_38) ?_
      show Steps p.tables e below (T84.setTop (mkF m 39 #[.val (.int p1), .val (.int p2), .val (.int p3), .val (.int p4), .val (.int p5), .val (.int 2), .val (.int y0), .val (.int y1), .val (.int y2), .val (.int y3), .val (.ref b84), .unset, .unset] [(.int 0), (.ref b84)])) _
      refine XS.iload X84.here hx rfl (hb hby at_39) rfl ?_
      exact kt
    obtain ⟨cl88, Ar88, q88, Sz88, Ng88, Hs88, Gt88⟩ := id V84
    have hin88 : ¬ ((0 : Int32) < 0 ∨ cl88.slots.size ≤ ((0 : Int32)).toNatClampNeg) := inb_of Sz88 ⟨by decide, by decide⟩
    obtain ⟨T88, h88, X88, e88, W88, st88⟩ := stC X84 hx hZ e84 Ar88 (j := (0 : Int32)) hin88 (g := (mkF m 41 #[.val (.int p1), .val (.int p2), .val (.int p3), .val (.int p4), .val (.int p5), .val (.int 2), .val (.int y0), .val (.int y1), .val (.int y2), .val (.int y3), .val (.ref b84), .unset, .unset] [(.int y0), (.int 0), (.ref b84)])) rfl rfl (hb hby at_41)
    have N88 := Fr.snoc X88 Nj2 ge85
    have zs89 : n0 ≤ h88.size := Nat.le_trans zs86 (Keep.of_wr W88).1
    have V88 : Arv Z h88 b84 k84 .char (2 : Int32) [(.int (nar .char y0)), (.int 0)] (.int 0) := Arv.set Ar88 q88 Sz88 Ng88 Hs88 Gt88 (fits_nar_char _) W88 0 rfl (Nat.le_of_ble_eq_true rfl)
    have pre90 : own_Go p e below S0 (T88.setTop (mkF m 53 #[.val (.int p1), .val (.int p2), .val (.int p3), .val (.int p4), .val (.int p5), .val (.int 2), .val (.int y0), .val (.int y1), .val (.int y2), .val (.int y3), .val (.ref b84), .unset, .unset] [(.int y1), (.int 1), (.ref b84)])) := by
      intro t kt
      refine pre87 t ?_
      refine st88 _ ?_
      refine XS.iload X88.here hx rfl (hb hby at_42) rfl ?_
      refine XS.iconst X88.here hx rfl (hb hby at_44) ?_
      refine XS.icmpNo X88.here hx rfl (hb hby at_45) rfl (tlt (by decide : (1 : Int32) < (2 : Int32))).2.2.2 ?_
      refine XS.aload X88.here hx rfl (hb hby at_48) rfl rfl ?_
      refine XS.iconst X88.here hx rfl (hb hby at_50) ?_
      show Steps p.tables e below (T88.setTop (mkF m 51 #[.val (.int p1), .val (.int p2), .val (.int p3), .val (.int p4), .val (.int p5), .val (.int 2), .val (.int y0), .val (.int y1), .val (.int y2), .val (.int y3), .val (.ref b84), .unset, .unset] [(.int 1), (.ref b84)])) _
      refine XS.iload X88.here hx rfl (hb hby at_51) rfl ?_
      exact kt
    obtain ⟨cl91, Ar91, q91, Sz91, Ng91, Hs91, Gt91⟩ := id V88
    have hin91 : ¬ ((1 : Int32) < 0 ∨ cl91.slots.size ≤ ((1 : Int32)).toNatClampNeg) := inb_of Sz91 ⟨by decide, by decide⟩
    obtain ⟨T91, h91, X91, e91, W91, st91⟩ := stC X88 hx hZ e88 Ar91 (j := (1 : Int32)) hin91 (g := (mkF m 53 #[.val (.int p1), .val (.int p2), .val (.int p3), .val (.int p4), .val (.int p5), .val (.int 2), .val (.int y0), .val (.int y1), .val (.int y2), .val (.int y3), .val (.ref b84), .unset, .unset] [(.int y1), (.int 1), (.ref b84)])) rfl rfl (hb hby at_53)
    have N91 := Fr.snoc X91 N88 ge85
    have zs92 : n0 ≤ h91.size := Nat.le_trans zs89 (Keep.of_wr W91).1
    have V91 : Arv Z h91 b84 k84 .char (2 : Int32) [(.int (nar .char y0)), (.int (nar .char y1))] (.int 0) := Arv.set Ar91 q91 Sz91 Ng91 Hs91 Gt91 (fits_nar_char _) W91 1 rfl (Nat.le_of_ble_eq_true rfl)
    have pre93 : own_Go p e below S0 (T91.setTop (mkF m 78 #[.val (.int p1), .val (.int p2), .val (.int p3), .val (.int p4), .val (.int p5), .val (.int 2), .val (.int y0), .val (.int y1), .val (.int y2), .val (.int y3), .val (.ref b84), .unset, .unset] [])) := by
      intro t kt
      refine pre90 t ?_
      refine st91 _ ?_
      refine XS.iload X91.here hx rfl (hb hby at_54) rfl ?_
      refine XS.iconst X91.here hx rfl (hb hby at_56) ?_
      refine XS.icmpYes X91.here hx rfl (pc0 := 57) (pc' := 66) rfl (hb hby at_57) rfl (flt (by decide : ¬ ((2 : Int32) < (2 : Int32)))).2.2.2 (by decide) (by decide) ?_
      refine XS.iload X91.here hx rfl (hb hby at_66) rfl ?_
      refine XS.iconst X91.here hx rfl (hb hby at_68) ?_
      show Steps p.tables e below (T91.setTop (mkF m 69 #[.val (.int p1), .val (.int p2), .val (.int p3), .val (.int p4), .val (.int p5), .val (.int 2), .val (.int y0), .val (.int y1), .val (.int y2), .val (.int y3), .val (.ref b84), .unset, .unset] [(.int 3), (.int 2)])) _
      refine XS.icmpYes X91.here hx rfl (pc0 := 69) (pc' := 78) rfl (hb hby at_69) rfl (flt (by decide : ¬ ((3 : Int32) < (2 : Int32)))).2.2.2 (by decide) (by decide) ?_
      exact kt
    obtain ⟨T94, h94, X94, e94, E94, A94, D94, -, st94⟩ := newO X91 hx hZ hown (hw _ (own_w 2 rfl)) (hw _ (own_w 3 rfl)) (hw _ (own_w 4 rfl)) e91 (g := (mkF m 78 #[.val (.int p1), .val (.int p2), .val (.int p3), .val (.int p4), .val (.int p5), .val (.int 2), .val (.int y0), .val (.int y1), .val (.int y2), .val (.int y3), .val (.ref b84), .unset, .unset] [])) rfl (hb hby at_78) (by decide) (by decide)
    obtain ⟨b94, g94⟩ : ∃ z, z = h91.size := ⟨_, rfl⟩
    rw [← g94] at A94 D94 st94
    have ne95 : b84 ≠ b94 := Nat.ne_of_lt (Nat.lt_of_lt_of_le V91.lt (Nat.le_of_eq g94.symm))
    have ge96 : n0 ≤ b94 := Nat.le_trans zs92 (Nat.le_of_eq g94.symm)
    have zs97 : n0 ≤ h94.size := Nat.le_trans zs92 E94.1
    have fd98 : Fld Z h94 b94 "java/lang/String" "value" "[B" .null := D94 (Or.inr (hw _ (own_w 17 rfl))) (ty := (.array .byte)) (by decide)
    have fd99 : Fld Z h94 b94 "java/lang/String" "coder" "B" (.int 0) := D94 (Or.inr (hw _ (own_w 18 rfl))) (ty := .byte) (by decide)
    have pre100 : own_Go p e below S0 (T94.setTop (mkF m 84 #[.val (.int p1), .val (.int p2), .val (.int p3), .val (.int p4), .val (.int p5), .val (.int 2), .val (.int y0), .val (.int y1), .val (.int y2), .val (.int y3), .val (.ref b84), .unset, .unset] [(.ref b84), (.ref b94), (.ref b94)])) := by
      intro t kt
      refine pre93 t ?_
      refine st94 _ ?_
      refine XS.dup X94.here hx rfl (hb hby at_81) rfl rfl ?_
      refine XS.aload X94.here hx rfl (hb hby at_82) rfl rfl ?_
      exact kt
    have f101 := (((O0.ext E84).wr W88 ge85).wr W91 ge85)
    have f102 : Old Z n0 h94 := (f101.ext E94)
    have f103 : Arv Z h94 b84 k84 .char (2 : Int32) [(.int (nar .char y0)), (.int (nar .char y1))] (.int 0) := (V91.ext E94)
    obtain ⟨_, _, ⟨T104, L104, k104, n104⟩, -, X104, ⟨Lc104, hQ104, l104, y104, z104⟩, st104⟩ := X94.specialBack hx (y := own_m3) rfl hown (mvT hZ (hw _ (own_w 5 rfl))) (mvT hZ (hw _ (own_w 6 rfl))) (mvT hZ (hw _ (own_w 7 rfl))) (by decide) (backOf (W := 1) (rminit1_2 l Z a0 hw [] b94 b84 k84 (nar .char y0) (nar .char y1) wC h94 n0 zs97 f102 qC qU A94 fd98 fd99 ge96 f103) hZ (hw _ (own_w 7 rfl)) (hw _ (own_w 4 rfl)) (by decide) (by decide)) (g := (mkF m 84 #[.val (.int p1), .val (.int p2), .val (.int p3), .val (.int p4), .val (.int p5), .val (.int 2), .val (.int y0), .val (.int y1), .val (.int y2), .val (.int y3), .val (.ref b84), .unset, .unset] [(.ref b84), (.ref b94), (.ref b94)])) rfl (by rw [hml]; rfl) (Steps.refl _) (a := b94) (argsL := [(.ref b84)]) (rest := [(.ref b94)]) (lenOf pd_17 rfl) rfl (by show 2 * 0 + _ ≤ _; exact Nat.le_of_eq rfl) (hb hby at_84) (fun _ _ => ⟨rfl, e94, (by decide : 2 + 2 ≤ _), (by decide : 6 + 6 ≤ _)⟩)
    dsimp only [Pt.U, Pt.locs, Pt.cells, Pt.slots] at X104 l104 y104 z104 st104 hQ104
    subst l104 y104 z104
    obtain ⟨vb105, kb106, rfl, Nq104, K104, g107, g108⟩ := hQ104
    have N104 := Fr.app N91 Nq104
    have ne109 : b84 ≠ vb105 := Nat.ne_of_lt (Nat.lt_of_lt_of_le f103.lt g107)
    have ne110 : b94 ≠ vb105 := Nat.ne_of_lt (Nat.lt_of_lt_of_le A94.lt g107)
    have ge111 : n0 ≤ vb105 := Nat.le_trans zs97 g107
    have zs112 : n0 ≤ T104.heap.size := Nat.le_trans zs97 K104.1
    have pre113 : own_Go p e below S0 (T104.setTop (mkF m 92 #[.val (.int p1), .val (.int p2), .val (.int p3), .val (.int p4), .val (.int p5), .val (.int 2), .val (.int y0), .val (.int y1), .val (.int y2), .val (.int y3), .val (.ref b84), .val (.ref b94), .val (.int 0)] [])) := by
      intro t kt
      refine pre100 t ?_
      refine st104.trans ?_
      show Steps p.tables e below (T104.setTop (mkF m 87 #[.val (.int p1), .val (.int p2), .val (.int p3), .val (.int p4), .val (.int p5), .val (.int 2), .val (.int y0), .val (.int y1), .val (.int y2), .val (.int y3), .val (.ref b84), .unset, .unset] [(.ref b94)])) _
      refine XS.astore X104.here hx rfl (hb hby at_87) rfl rfl (l' := #[.val (.int p1), .val (.int p2), .val (.int p3), .val (.int p4), .val (.int p5), .val (.int 2), .val (.int y0), .val (.int y1), .val (.int y2), .val (.int y3), .val (.ref b84), .val (.ref b94), .unset]) rfl ?_
      refine XS.iconst X104.here hx rfl (hb hby at_89) ?_
      refine XS.istore X104.here hx rfl (hb hby at_90) rfl (l' := #[.val (.int p1), .val (.int p2), .val (.int p3), .val (.int p4), .val (.int p5), .val (.int 2), .val (.int y0), .val (.int y1), .val (.int y2), .val (.int y3), .val (.ref b84), .val (.ref b94), .val (.int 0)]) rfl ?_
      exact kt
    obtain ⟨Tj114, lj114, Xj114, Nj114, ej114, prej114⟩ : ∃ (Tj114 : State) (lj114 : List Loc), Stand p l e room_1 s m #[(.int p1), (.int p2), (.int p3), (.int p4), (.int p5)] below meth c Tj114 lj114 4 12 ∧ Fr n0 lj114 ∧ Tj114.heap = T104.heap ∧ own_Go p e below S0 (Tj114.setTop (mkF m 108 #[.val (.int p1), .val (.int p2), .val (.int p3), .val (.int p4), .val (.int p5), .val (.int 2), .val (.int y0), .val (.int y1), .val (.int y2), .val (.int y3), .val (.ref b84), .val (.ref b94), .val (.int (own_e (0 : Int32) y0))] [])) := by
      have pre115 : own_Go p e below S0 (T104.setTop (mkF m 99 #[.val (.int p1), .val (.int p2), .val (.int p3), .val (.int p4), .val (.int p5), .val (.int 2), .val (.int y0), .val (.int y1), .val (.int y2), .val (.int y3), .val (.ref b84), .val (.ref b94), .val (.int 0)] [(.int y0)])) := by
        intro t kt
        refine pre113 t ?_
        refine XS.iload X104.here hx rfl (hb hby at_92) rfl ?_
        refine XS.ifNo X104.here hx rfl (hb hby at_94) rfl ((if0 _ _).trans (tlt (by decide : (0 : Int32) < (2 : Int32))).2.2.2) ?_
        refine XS.iload X104.here hx rfl (hb hby at_97) rfl ?_
        exact kt
      obtain ⟨_, _, ⟨T116, L116, k116, n116⟩, -, X116, ⟨Lc116, hQ116, l116, y116, z116⟩, st116⟩ := Jvm.LawKit.callS X104 hx (y := own_m2) hown (mvT hZ (hw _ (own_w 48 rfl))) (mvT hZ (hw _ (own_w 49 rfl))) (mvT hZ (hw _ (own_w 50 rfl))) (mvT hZ (hw _ (own_w 51 rfl))) (by decide) (backOf (W := 0) (rm10 l Z a0 hw [] y0 T104.heap n0 zs112 ) hZ (hw _ (own_w 51 rfl)) (hw _ (own_w 50 rfl)) (by decide) (by decide)) (g := (mkF m 99 #[.val (.int p1), .val (.int p2), .val (.int p3), .val (.int p4), .val (.int p5), .val (.int 2), .val (.int y0), .val (.int y1), .val (.int y2), .val (.int y3), .val (.ref b84), .val (.ref b94), .val (.int 0)] [(.int y0)])) rfl (by rw [hml]; rfl) (argsL := [(.int y0)]) (rest := []) (lenOf pd_16 rfl) rfl (by show 2 * 0 + _ ≤ _; exact Nat.le_of_eq rfl) (hb hby at_99) (fun _ _ => ⟨rfl, rfl, (by decide : 4 + 0 ≤ _), (by decide : 12 + 0 ≤ _)⟩)
      dsimp only [Pt.U, Pt.locs, Pt.cells, Pt.slots] at X116 l116 y116 z116 st116 hQ116
      subst l116 y116 z116
      obtain ⟨rfl, Nq116, eq116⟩ := hQ116
      have N116 := Fr.app N104 Nq116
      have pre118 : own_Go p e below S0 (T116.setTop (mkF m 102 #[.val (.int p1), .val (.int p2), .val (.int p3), .val (.int p4), .val (.int p5), .val (.int 2), .val (.int y0), .val (.int y1), .val (.int y2), .val (.int y3), .val (.ref b84), .val (.ref b94), .val (.int 0)] [(.int (own_ctl y0))])) := by
        intro t kt
        refine pre115 t ?_
        refine st116 _ ?_
        show Steps p.tables e below (T116.setTop (mkF m 102 #[.val (.int p1), .val (.int p2), .val (.int p3), .val (.int p4), .val (.int p5), .val (.int 2), .val (.int y0), .val (.int y1), .val (.int y2), .val (.int y3), .val (.ref b84), .val (.ref b94), .val (.int 0)] [(.int (own_ctl y0))])) _
        exact kt
      by_cases hc117 : (own_ctl y0) = (0 : Int32)
      · have pre119 : own_Go p e below S0 (T116.setTop (mkF m 108 #[.val (.int p1), .val (.int p2), .val (.int p3), .val (.int p4), .val (.int p5), .val (.int 2), .val (.int y0), .val (.int y1), .val (.int y2), .val (.int y3), .val (.ref b84), .val (.ref b94), .val (.int 0)] [])) := by
          intro t kt
          refine pre118 t ?_
          refine XS.ifYes X116.here hx rfl (pc0 := 102) (pc' := 108) rfl (hb hby at_102) rfl ((if0 _ _).trans (teq hc117).1) (by decide) (by decide) ?_
          exact kt
        have pre120 : own_Go p e below S0 (T116.setTop (mkF m 108 #[.val (.int p1), .val (.int p2), .val (.int p3), .val (.int p4), .val (.int p5), .val (.int 2), .val (.int y0), .val (.int y1), .val (.int y2), .val (.int y3), .val (.ref b84), .val (.ref b94), .val (.int (own_e (0 : Int32) y0))] [])) := by
          intro t kt
          refine pre119 t ?_
          exact castTop (by rw [own_eA (p := (0 : Int32)) hc117]) kt
        exact ⟨T116, _, (Stand.mono X116 (by decide) (by decide)), N116, eq116, pre120⟩
      · have pre121 : own_Go p e below S0 (T116.setTop (mkF m 108 #[.val (.int p1), .val (.int p2), .val (.int p3), .val (.int p4), .val (.int p5), .val (.int 2), .val (.int y0), .val (.int y1), .val (.int y2), .val (.int y3), .val (.ref b84), .val (.ref b94), .val (.int 1)] [])) := by
          intro t kt
          refine pre118 t ?_
          refine XS.ifNo X116.here hx rfl (hb hby at_102) rfl ((if0 _ _).trans (feq hc117).1) ?_
          refine XS.iconst X116.here hx rfl (hb hby at_105) ?_
          refine XS.istore X116.here hx rfl (hb hby at_106) rfl (l' := #[.val (.int p1), .val (.int p2), .val (.int p3), .val (.int p4), .val (.int p5), .val (.int 2), .val (.int y0), .val (.int y1), .val (.int y2), .val (.int y3), .val (.ref b84), .val (.ref b94), .val (.int 1)]) rfl ?_
          exact kt
        have pre122 : own_Go p e below S0 (T116.setTop (mkF m 108 #[.val (.int p1), .val (.int p2), .val (.int p3), .val (.int p4), .val (.int p5), .val (.int 2), .val (.int y0), .val (.int y1), .val (.int y2), .val (.int y3), .val (.ref b84), .val (.ref b94), .val (.int (own_e (0 : Int32) y0))] [])) := by
          intro t kt
          refine pre121 t ?_
          exact castTop (by rw [own_eB (p := (0 : Int32)) hc117]) kt
        exact ⟨T116, _, (Stand.mono X116 (by decide) (by decide)), N116, eq116, pre122⟩
    obtain ⟨Tj123, lj123, Xj123, Nj123, ej123, prej123⟩ : ∃ (Tj123 : State) (lj123 : List Loc), Stand p l e room_1 s m #[(.int p1), (.int p2), (.int p3), (.int p4), (.int p5)] below meth c Tj123 lj123 4 12 ∧ Fr n0 lj123 ∧ Tj123.heap = T104.heap ∧ own_Go p e below S0 (Tj123.setTop (mkF m 125 #[.val (.int p1), .val (.int p2), .val (.int p3), .val (.int p4), .val (.int p5), .val (.int 2), .val (.int y0), .val (.int y1), .val (.int y2), .val (.int y3), .val (.ref b84), .val (.ref b94), .val (.int (own_e (own_e (0 : Int32) y0) y1))] [])) := by
      have pre124 : own_Go p e below S0 (Tj114.setTop (mkF m 116 #[.val (.int p1), .val (.int p2), .val (.int p3), .val (.int p4), .val (.int p5), .val (.int 2), .val (.int y0), .val (.int y1), .val (.int y2), .val (.int y3), .val (.ref b84), .val (.ref b94), .val (.int (own_e (0 : Int32) y0))] [(.int y1)])) := by
        intro t kt
        refine prej114 t ?_
        refine XS.iload Xj114.here hx rfl (hb hby at_108) rfl ?_
        refine XS.iconst Xj114.here hx rfl (hb hby at_110) ?_
        refine XS.icmpNo Xj114.here hx rfl (hb hby at_111) rfl (tlt (by decide : (1 : Int32) < (2 : Int32))).2.2.2 ?_
        refine XS.iload Xj114.here hx rfl (hb hby at_114) rfl ?_
        exact kt
      obtain ⟨_, _, ⟨T125, L125, k125, n125⟩, -, X125, ⟨Lc125, hQ125, l125, y125, z125⟩, st125⟩ := Jvm.LawKit.callS Xj114 hx (y := own_m2) hown (mvT hZ (hw _ (own_w 48 rfl))) (mvT hZ (hw _ (own_w 49 rfl))) (mvT hZ (hw _ (own_w 50 rfl))) (mvT hZ (hw _ (own_w 51 rfl))) (by decide) (backOf (W := 0) (rm10 l Z a0 hw [] y1 T104.heap n0 zs112 ) hZ (hw _ (own_w 51 rfl)) (hw _ (own_w 50 rfl)) (by decide) (by decide)) (g := (mkF m 116 #[.val (.int p1), .val (.int p2), .val (.int p3), .val (.int p4), .val (.int p5), .val (.int 2), .val (.int y0), .val (.int y1), .val (.int y2), .val (.int y3), .val (.ref b84), .val (.ref b94), .val (.int (own_e (0 : Int32) y0))] [(.int y1)])) rfl (by rw [hml]; rfl) (argsL := [(.int y1)]) (rest := []) (lenOf pd_16 rfl) rfl (by show 2 * 0 + _ ≤ _; exact Nat.le_of_eq rfl) (hb hby at_116) (fun _ _ => ⟨rfl, ej114, (by decide : 4 + 0 ≤ _), (by decide : 12 + 0 ≤ _)⟩)
      dsimp only [Pt.U, Pt.locs, Pt.cells, Pt.slots] at X125 l125 y125 z125 st125 hQ125
      subst l125 y125 z125
      obtain ⟨rfl, Nq125, eq125⟩ := hQ125
      have N125 := Fr.app Nj114 Nq125
      have pre127 : own_Go p e below S0 (T125.setTop (mkF m 119 #[.val (.int p1), .val (.int p2), .val (.int p3), .val (.int p4), .val (.int p5), .val (.int 2), .val (.int y0), .val (.int y1), .val (.int y2), .val (.int y3), .val (.ref b84), .val (.ref b94), .val (.int (own_e (0 : Int32) y0))] [(.int (own_ctl y1))])) := by
        intro t kt
        refine pre124 t ?_
        refine st125 _ ?_
        show Steps p.tables e below (T125.setTop (mkF m 119 #[.val (.int p1), .val (.int p2), .val (.int p3), .val (.int p4), .val (.int p5), .val (.int 2), .val (.int y0), .val (.int y1), .val (.int y2), .val (.int y3), .val (.ref b84), .val (.ref b94), .val (.int (own_e (0 : Int32) y0))] [(.int (own_ctl y1))])) _
        exact kt
      by_cases hc126 : (own_ctl y1) = (0 : Int32)
      · have pre128 : own_Go p e below S0 (T125.setTop (mkF m 125 #[.val (.int p1), .val (.int p2), .val (.int p3), .val (.int p4), .val (.int p5), .val (.int 2), .val (.int y0), .val (.int y1), .val (.int y2), .val (.int y3), .val (.ref b84), .val (.ref b94), .val (.int (own_e (0 : Int32) y0))] [])) := by
          intro t kt
          refine pre127 t ?_
          refine XS.ifYes X125.here hx rfl (pc0 := 119) (pc' := 125) rfl (hb hby at_119) rfl ((if0 _ _).trans (teq hc126).1) (by decide) (by decide) ?_
          exact kt
        have pre129 : own_Go p e below S0 (T125.setTop (mkF m 125 #[.val (.int p1), .val (.int p2), .val (.int p3), .val (.int p4), .val (.int p5), .val (.int 2), .val (.int y0), .val (.int y1), .val (.int y2), .val (.int y3), .val (.ref b84), .val (.ref b94), .val (.int (own_e (own_e (0 : Int32) y0) y1))] [])) := by
          intro t kt
          refine pre128 t ?_
          exact castTop (by rw [own_eA (p := (own_e (0 : Int32) y0)) hc126]) kt
        exact ⟨T125, _, (Stand.mono X125 (by decide) (by decide)), N125, eq125, pre129⟩
      · have pre130 : own_Go p e below S0 (T125.setTop (mkF m 125 #[.val (.int p1), .val (.int p2), .val (.int p3), .val (.int p4), .val (.int p5), .val (.int 2), .val (.int y0), .val (.int y1), .val (.int y2), .val (.int y3), .val (.ref b84), .val (.ref b94), .val (.int 1)] [])) := by
          intro t kt
          refine pre127 t ?_
          refine XS.ifNo X125.here hx rfl (hb hby at_119) rfl ((if0 _ _).trans (feq hc126).1) ?_
          refine XS.iconst X125.here hx rfl (hb hby at_122) ?_
          refine XS.istore X125.here hx rfl (hb hby at_123) rfl (l' := #[.val (.int p1), .val (.int p2), .val (.int p3), .val (.int p4), .val (.int p5), .val (.int 2), .val (.int y0), .val (.int y1), .val (.int y2), .val (.int y3), .val (.ref b84), .val (.ref b94), .val (.int 1)]) rfl ?_
          exact kt
        have pre131 : own_Go p e below S0 (T125.setTop (mkF m 125 #[.val (.int p1), .val (.int p2), .val (.int p3), .val (.int p4), .val (.int p5), .val (.int 2), .val (.int y0), .val (.int y1), .val (.int y2), .val (.int y3), .val (.ref b84), .val (.ref b94), .val (.int (own_e (own_e (0 : Int32) y0) y1))] [])) := by
          intro t kt
          refine pre130 t ?_
          exact castTop (by rw [own_eB (p := (own_e (0 : Int32) y0)) hc126]) kt
        exact ⟨T125, _, (Stand.mono X125 (by decide) (by decide)), N125, eq125, pre131⟩
    have pre132 : own_Go p e below S0 (Tj123.setTop (mkF m 161 #[.val (.int p1), .val (.int p2), .val (.int p3), .val (.int p4), .val (.int p5), .val (.int 2), .val (.int y0), .val (.int y1), .val (.int y2), .val (.int y3), .val (.ref b84), .val (.ref b94), .val (.int (own_e (own_e (0 : Int32) y0) y1))] [(.ref b94)])) := by
      intro t kt
      refine prej123 t ?_
      refine XS.iload Xj123.here hx rfl (hb hby at_125) rfl ?_
      refine XS.iconst Xj123.here hx rfl (hb hby at_127) ?_
      refine XS.icmpYes Xj123.here hx rfl (pc0 := 128) (pc' := 142) rfl (hb hby at_128) rfl (flt (by decide : ¬ ((2 : Int32) < (2 : Int32)))).2.2.2 (by decide) (by decide) ?_
      refine XS.iload Xj123.here hx rfl (hb hby at_142) rfl ?_
      refine XS.iconst Xj123.here hx rfl (hb hby at_144) ?_
      refine XS.icmpYes Xj123.here hx rfl (pc0 := 145) (pc' := 159) rfl (hb hby at_145) rfl (flt (by decide : ¬ ((3 : Int32) < (2 : Int32)))).2.2.2 (by decide) (by decide) ?_
      show Steps p.tables e below (Tj123.setTop (mkF m 159 #[.val (.int p1), .val (.int p2), .val (.int p3), .val (.int p4), .val (.int p5), .val (.int 2), .val (.int y0), .val (.int y1), .val (.int y2), .val (.int y3), .val (.ref b84), .val (.ref b94), .val (.int (own_e (own_e (0 : Int32) y0) y1))] [])) _
      refine XS.aload Xj123.here hx rfl (hb hby at_159) rfl rfl ?_
      exact kt
    have f133 : Old Z n0 T104.heap := (f102.keep K104 (allS ge96 all0))
    obtain ⟨_, _, ⟨T134, L134, k134, n134⟩, -, X134, ⟨Lc134, hQ134, l134, y134, z134⟩, st134⟩ := Jvm.LawKit.callS Xj123 hx (y := own_m0) hown (mvT hZ (hw _ (own_w 23 rfl))) (mvT hZ (hw _ (own_w 24 rfl))) (mvT hZ (hw _ (own_w 25 rfl))) (mvT hZ (hw _ (own_w 26 rfl))) (by decide) (backOf (W := 0) (rmany2 l Z a0 hw [] b94 wC wF vb105 kb106 (nar .char y0) (nar .char y1) T104.heap n0 zs112 f133 qC qU qF g108) hZ (hw _ (own_w 26 rfl)) (hw _ (own_w 25 rfl)) (by decide) (by decide)) (g := (mkF m 161 #[.val (.int p1), .val (.int p2), .val (.int p3), .val (.int p4), .val (.int p5), .val (.int 2), .val (.int y0), .val (.int y1), .val (.int y2), .val (.int y3), .val (.ref b84), .val (.ref b94), .val (.int (own_e (own_e (0 : Int32) y0) y1))] [(.ref b94)])) rfl (by rw [hml]; rfl) (argsL := [(.ref b94)]) (rest := []) (lenOf pd_18 rfl) rfl (by show 2 * 0 + _ ≤ _; exact Nat.le_of_eq rfl) (hb hby at_161) (fun _ _ => ⟨rfl, ej123, (by decide : 4 + 0 ≤ _), (by decide : 12 + 0 ≤ _)⟩)
    dsimp only [Pt.U, Pt.locs, Pt.cells, Pt.slots] at X134 l134 y134 z134 st134 hQ134
    subst l134 y134 z134
    obtain ⟨rfl, Nq134, eq134⟩ := hQ134
    have N134 := Fr.app Nj123 Nq134
    have pre135 : own_Go p e below S0 (T134.setTop (mkF m 174 #[.val (.int p1), .val (.int p2), .val (.int p3), .val (.int p4), .val (.int p5), .val (.int 2), .val (.int y0), .val (.int y1), .val (.int y2), .val (.int y3), .val (.ref b84), .val (.ref b94), .val (.int (own_e (own_e (0 : Int32) y0) y1))] [(.int 1)])) := by
      intro t kt
      refine pre132 t ?_
      refine st134 _ ?_
      show Steps p.tables e below (T134.setTop (mkF m 164 #[.val (.int p1), .val (.int p2), .val (.int p3), .val (.int p4), .val (.int p5), .val (.int 2), .val (.int y0), .val (.int y1), .val (.int y2), .val (.int y3), .val (.ref b84), .val (.ref b94), .val (.int (own_e (own_e (0 : Int32) y0) y1))] [(.int (own_any2 (nar .char y0) (nar .char y1)))])) _
      refine XS.iload X134.here hx rfl (hb hby at_164) rfl ?_
      refine XS.icmpNo X134.here hx rfl (hb hby at_166) rfl (teq ((own_anyE2 _ _).trans (by rw [pj3, pj4]))).2 ?_
      refine XS.iconst X134.here hx rfl (hb hby at_169) ?_
      refine XS.goto X134.here hx rfl (pc0 := 170) (pc' := 174) rfl (hb hby at_170) (by decide) (by decide) ?_
      exact kt
    obtain ⟨fs, hr, hrun, hended, hW, hsame⟩ := X134.leave (v := some (.int 1)) (fun h => by rw [Bd.returns] at h; cases h)
    refine ⟨_, _, fin _ (pre135 _ ?_), hrun, hended, _, _, rfl, ?_, own_wideMono (ReturnedEndW.of_narrow ⟨_, rfl⟩ hW hsame) (by decide) (by decide)⟩
    · exact retN X134 hx (t := .boolean) Bd.returns (by simp) (hb hby at_174) hr
    · show Q0 Z p1 p2 p3 p4 p5 wC wF h0 n0 _ T134.heap _
      rw [eq134]
      exact ⟨rfl, N134⟩
  · have pre136 : own_Go p e below S0 (Tj2.setTop (mkF m 25 #[.val (.int p1), .val (.int p2), .val (.int p3), .val (.int p4), .val (.int p5), .val (.int 3), .val (.int y0), .val (.int y1), .val (.int y2), .val (.int y3), .unset, .unset, .unset] [])) := by
      intro t kt
      refine prej2 t ?_
      rw [hk]
      exact kt
    have pre137 : own_Go p e below S0 (Tj2.setTop (mkF m 27 #[.val (.int p1), .val (.int p2), .val (.int p3), .val (.int p4), .val (.int p5), .val (.int 3), .val (.int y0), .val (.int y1), .val (.int y2), .val (.int y3), .unset, .unset, .unset] [(.int 3)])) := by
      intro t kt
      refine pre136 t ?_
      refine XS.iload Xj2.here hx rfl (hb hby at_25) rfl ?_
      exact kt
    obtain ⟨T138, h138, k138, X138, e138, E138, A138, st138⟩ := newP Xj2 hx hZ (hw _ (own_w 1 rfl)) ej2 (g := (mkF m 27 #[.val (.int p1), .val (.int p2), .val (.int p3), .val (.int p4), .val (.int p5), .val (.int 3), .val (.int y0), .val (.int y1), .val (.int y2), .val (.int y3), .unset, .unset, .unset] [(.int 3)])) rfl (hb hby at_27) rfl (by decide) (cap := 3) (by decide) (by decide) (by decide) (by decide)
    obtain ⟨b138, g138⟩ : ∃ z, z = h0.size := ⟨_, rfl⟩
    rw [← g138] at A138 st138
    have ge139 : n0 ≤ b138 := Nat.le_trans Z0 (Nat.le_of_eq g138.symm)
    have zs140 : n0 ≤ h138.size := Nat.le_trans Z0 E138.1
    have V138 : Arv Z h138 b138 k138 .char (3 : Int32) [(.int 0), (.int 0), (.int 0)] (.int 0) := (Arv.new A138 (by decide)).pad (pad_rep [] (.int 0) 3)
    have pre141 : own_Go p e below S0 (T138.setTop (mkF m 41 #[.val (.int p1), .val (.int p2), .val (.int p3), .val (.int p4), .val (.int p5), .val (.int 3), .val (.int y0), .val (.int y1), .val (.int y2), .val (.int y3), .val (.ref b138), .unset, .unset] [(.int y0), (.int 0), (.ref b138)])) := by
      intro t kt
      refine pre137 t ?_
      refine st138 _ ?_
      refine XS.astore X138.here hx rfl (hb hby at_29) rfl rfl (l' := #[.val (.int p1), .val (.int p2), .val (.int p3), .val (.int p4), .val (.int p5), .val (.int 3), .val (.int y0), .val (.int y1), .val (.int y2), .val (.int y3), .val (.ref b138), .unset, .unset]) rfl ?_
      refine XS.iload X138.here hx rfl (hb hby at_31) rfl ?_
      refine XS.ifNo X138.here hx rfl (hb hby at_33) rfl ((if0 _ _).trans (tlt (by decide : (0 : Int32) < (3 : Int32))).2.2.2) ?_
      refine XS.aload X138.here hx rfl (hb hby at_36) rfl rfl ?_
      refine XS.iconst X138.here hx rfl (hb hby at_38) ?_
      show Steps p.tables e below (T138.setTop (mkF m 39 #[.val (.int p1), .val (.int p2), .val (.int p3), .val (.int p4), .val (.int p5), .val (.int 3), .val (.int y0), .val (.int y1), .val (.int y2), .val (.int y3), .val (.ref b138), .unset, .unset] [(.int 0), (.ref b138)])) _
      refine XS.iload X138.here hx rfl (hb hby at_39) rfl ?_
      exact kt
    obtain ⟨cl142, Ar142, q142, Sz142, Ng142, Hs142, Gt142⟩ := id V138
    have hin142 : ¬ ((0 : Int32) < 0 ∨ cl142.slots.size ≤ ((0 : Int32)).toNatClampNeg) := inb_of Sz142 ⟨by decide, by decide⟩
    obtain ⟨T142, h142, X142, e142, W142, st142⟩ := stC X138 hx hZ e138 Ar142 (j := (0 : Int32)) hin142 (g := (mkF m 41 #[.val (.int p1), .val (.int p2), .val (.int p3), .val (.int p4), .val (.int p5), .val (.int 3), .val (.int y0), .val (.int y1), .val (.int y2), .val (.int y3), .val (.ref b138), .unset, .unset] [(.int y0), (.int 0), (.ref b138)])) rfl rfl (hb hby at_41)
    have N142 := Fr.snoc X142 Nj2 ge139
    have zs143 : n0 ≤ h142.size := Nat.le_trans zs140 (Keep.of_wr W142).1
    have V142 : Arv Z h142 b138 k138 .char (3 : Int32) [(.int (nar .char y0)), (.int 0), (.int 0)] (.int 0) := Arv.set Ar142 q142 Sz142 Ng142 Hs142 Gt142 (fits_nar_char _) W142 0 rfl (Nat.le_of_ble_eq_true rfl)
    have pre144 : own_Go p e below S0 (T142.setTop (mkF m 53 #[.val (.int p1), .val (.int p2), .val (.int p3), .val (.int p4), .val (.int p5), .val (.int 3), .val (.int y0), .val (.int y1), .val (.int y2), .val (.int y3), .val (.ref b138), .unset, .unset] [(.int y1), (.int 1), (.ref b138)])) := by
      intro t kt
      refine pre141 t ?_
      refine st142 _ ?_
      refine XS.iload X142.here hx rfl (hb hby at_42) rfl ?_
      refine XS.iconst X142.here hx rfl (hb hby at_44) ?_
      refine XS.icmpNo X142.here hx rfl (hb hby at_45) rfl (tlt (by decide : (1 : Int32) < (3 : Int32))).2.2.2 ?_
      refine XS.aload X142.here hx rfl (hb hby at_48) rfl rfl ?_
      refine XS.iconst X142.here hx rfl (hb hby at_50) ?_
      show Steps p.tables e below (T142.setTop (mkF m 51 #[.val (.int p1), .val (.int p2), .val (.int p3), .val (.int p4), .val (.int p5), .val (.int 3), .val (.int y0), .val (.int y1), .val (.int y2), .val (.int y3), .val (.ref b138), .unset, .unset] [(.int 1), (.ref b138)])) _
      refine XS.iload X142.here hx rfl (hb hby at_51) rfl ?_
      exact kt
    obtain ⟨cl145, Ar145, q145, Sz145, Ng145, Hs145, Gt145⟩ := id V142
    have hin145 : ¬ ((1 : Int32) < 0 ∨ cl145.slots.size ≤ ((1 : Int32)).toNatClampNeg) := inb_of Sz145 ⟨by decide, by decide⟩
    obtain ⟨T145, h145, X145, e145, W145, st145⟩ := stC X142 hx hZ e142 Ar145 (j := (1 : Int32)) hin145 (g := (mkF m 53 #[.val (.int p1), .val (.int p2), .val (.int p3), .val (.int p4), .val (.int p5), .val (.int 3), .val (.int y0), .val (.int y1), .val (.int y2), .val (.int y3), .val (.ref b138), .unset, .unset] [(.int y1), (.int 1), (.ref b138)])) rfl rfl (hb hby at_53)
    have N145 := Fr.snoc X145 N142 ge139
    have zs146 : n0 ≤ h145.size := Nat.le_trans zs143 (Keep.of_wr W145).1
    have V145 : Arv Z h145 b138 k138 .char (3 : Int32) [(.int (nar .char y0)), (.int (nar .char y1)), (.int 0)] (.int 0) := Arv.set Ar145 q145 Sz145 Ng145 Hs145 Gt145 (fits_nar_char _) W145 1 rfl (Nat.le_of_ble_eq_true rfl)
    have pre147 : own_Go p e below S0 (T145.setTop (mkF m 65 #[.val (.int p1), .val (.int p2), .val (.int p3), .val (.int p4), .val (.int p5), .val (.int 3), .val (.int y0), .val (.int y1), .val (.int y2), .val (.int y3), .val (.ref b138), .unset, .unset] [(.int y2), (.int 2), (.ref b138)])) := by
      intro t kt
      refine pre144 t ?_
      refine st145 _ ?_
      refine XS.iload X145.here hx rfl (hb hby at_54) rfl ?_
      refine XS.iconst X145.here hx rfl (hb hby at_56) ?_
      refine XS.icmpNo X145.here hx rfl (hb hby at_57) rfl (tlt (by decide : (2 : Int32) < (3 : Int32))).2.2.2 ?_
      refine XS.aload X145.here hx rfl (hb hby at_60) rfl rfl ?_
      refine XS.iconst X145.here hx rfl (hb hby at_62) ?_
      show Steps p.tables e below (T145.setTop (mkF m 63 #[.val (.int p1), .val (.int p2), .val (.int p3), .val (.int p4), .val (.int p5), .val (.int 3), .val (.int y0), .val (.int y1), .val (.int y2), .val (.int y3), .val (.ref b138), .unset, .unset] [(.int 2), (.ref b138)])) _
      refine XS.iload X145.here hx rfl (hb hby at_63) rfl ?_
      exact kt
    obtain ⟨cl148, Ar148, q148, Sz148, Ng148, Hs148, Gt148⟩ := id V145
    have hin148 : ¬ ((2 : Int32) < 0 ∨ cl148.slots.size ≤ ((2 : Int32)).toNatClampNeg) := inb_of Sz148 ⟨by decide, by decide⟩
    obtain ⟨T148, h148, X148, e148, W148, st148⟩ := stC X145 hx hZ e145 Ar148 (j := (2 : Int32)) hin148 (g := (mkF m 65 #[.val (.int p1), .val (.int p2), .val (.int p3), .val (.int p4), .val (.int p5), .val (.int 3), .val (.int y0), .val (.int y1), .val (.int y2), .val (.int y3), .val (.ref b138), .unset, .unset] [(.int y2), (.int 2), (.ref b138)])) rfl rfl (hb hby at_65)
    have N148 := Fr.snoc X148 N145 ge139
    have zs149 : n0 ≤ h148.size := Nat.le_trans zs146 (Keep.of_wr W148).1
    have V148 : Arv Z h148 b138 k138 .char (3 : Int32) [(.int (nar .char y0)), (.int (nar .char y1)), (.int (nar .char y2))] (.int 0) := Arv.set Ar148 q148 Sz148 Ng148 Hs148 Gt148 (fits_nar_char _) W148 2 rfl (Nat.le_of_ble_eq_true rfl)
    have pre150 : own_Go p e below S0 (T148.setTop (mkF m 78 #[.val (.int p1), .val (.int p2), .val (.int p3), .val (.int p4), .val (.int p5), .val (.int 3), .val (.int y0), .val (.int y1), .val (.int y2), .val (.int y3), .val (.ref b138), .unset, .unset] [])) := by
      intro t kt
      refine pre147 t ?_
      refine st148 _ ?_
      refine XS.iload X148.here hx rfl (hb hby at_66) rfl ?_
      refine XS.iconst X148.here hx rfl (hb hby at_68) ?_
      refine XS.icmpYes X148.here hx rfl (pc0 := 69) (pc' := 78) rfl (hb hby at_69) rfl (flt (by decide : ¬ ((3 : Int32) < (3 : Int32)))).2.2.2 (by decide) (by decide) ?_
      exact kt
    obtain ⟨T151, h151, X151, e151, E151, A151, D151, -, st151⟩ := newO X148 hx hZ hown (hw _ (own_w 2 rfl)) (hw _ (own_w 3 rfl)) (hw _ (own_w 4 rfl)) e148 (g := (mkF m 78 #[.val (.int p1), .val (.int p2), .val (.int p3), .val (.int p4), .val (.int p5), .val (.int 3), .val (.int y0), .val (.int y1), .val (.int y2), .val (.int y3), .val (.ref b138), .unset, .unset] [])) rfl (hb hby at_78) (by decide) (by decide)
    obtain ⟨b151, g151⟩ : ∃ z, z = h148.size := ⟨_, rfl⟩
    rw [← g151] at A151 D151 st151
    have ne152 : b138 ≠ b151 := Nat.ne_of_lt (Nat.lt_of_lt_of_le V148.lt (Nat.le_of_eq g151.symm))
    have ge153 : n0 ≤ b151 := Nat.le_trans zs149 (Nat.le_of_eq g151.symm)
    have zs154 : n0 ≤ h151.size := Nat.le_trans zs149 E151.1
    have fd155 : Fld Z h151 b151 "java/lang/String" "value" "[B" .null := D151 (Or.inr (hw _ (own_w 17 rfl))) (ty := (.array .byte)) (by decide)
    have fd156 : Fld Z h151 b151 "java/lang/String" "coder" "B" (.int 0) := D151 (Or.inr (hw _ (own_w 18 rfl))) (ty := .byte) (by decide)
    have pre157 : own_Go p e below S0 (T151.setTop (mkF m 84 #[.val (.int p1), .val (.int p2), .val (.int p3), .val (.int p4), .val (.int p5), .val (.int 3), .val (.int y0), .val (.int y1), .val (.int y2), .val (.int y3), .val (.ref b138), .unset, .unset] [(.ref b138), (.ref b151), (.ref b151)])) := by
      intro t kt
      refine pre150 t ?_
      refine st151 _ ?_
      refine XS.dup X151.here hx rfl (hb hby at_81) rfl rfl ?_
      refine XS.aload X151.here hx rfl (hb hby at_82) rfl rfl ?_
      exact kt
    have f158 := (((O0.ext E138).wr W142 ge139).wr W145 ge139)
    have f159 : Old Z n0 h151 := ((f158.wr W148 ge139).ext E151)
    have f160 : Arv Z h151 b138 k138 .char (3 : Int32) [(.int (nar .char y0)), (.int (nar .char y1)), (.int (nar .char y2))] (.int 0) := (V148.ext E151)
    obtain ⟨_, _, ⟨T161, L161, k161, n161⟩, -, X161, ⟨Lc161, hQ161, l161, y161, z161⟩, st161⟩ := X151.specialBack hx (y := own_m3) rfl hown (mvT hZ (hw _ (own_w 5 rfl))) (mvT hZ (hw _ (own_w 6 rfl))) (mvT hZ (hw _ (own_w 7 rfl))) (by decide) (backOf (W := 1) (rminit1_3 l Z a0 hw [] b151 b138 k138 (nar .char y0) (nar .char y1) (nar .char y2) wC h151 n0 zs154 f159 qC qU A151 fd155 fd156 ge153 f160) hZ (hw _ (own_w 7 rfl)) (hw _ (own_w 4 rfl)) (by decide) (by decide)) (g := (mkF m 84 #[.val (.int p1), .val (.int p2), .val (.int p3), .val (.int p4), .val (.int p5), .val (.int 3), .val (.int y0), .val (.int y1), .val (.int y2), .val (.int y3), .val (.ref b138), .unset, .unset] [(.ref b138), (.ref b151), (.ref b151)])) rfl (by rw [hml]; rfl) (Steps.refl _) (a := b151) (argsL := [(.ref b138)]) (rest := [(.ref b151)]) (lenOf pd_17 rfl) rfl (by show 2 * 0 + _ ≤ _; exact Nat.le_of_eq rfl) (hb hby at_84) (fun _ _ => ⟨rfl, e151, (by decide : 2 + 2 ≤ _), (by decide : 7 + 9 ≤ _)⟩)
    dsimp only [Pt.U, Pt.locs, Pt.cells, Pt.slots] at X161 l161 y161 z161 st161 hQ161
    subst l161 y161 z161
    obtain ⟨vb162, kb163, rfl, Nq161, K161, g164, g165⟩ := hQ161
    have N161 := Fr.app N148 Nq161
    have ne166 : b138 ≠ vb162 := Nat.ne_of_lt (Nat.lt_of_lt_of_le f160.lt g164)
    have ne167 : b151 ≠ vb162 := Nat.ne_of_lt (Nat.lt_of_lt_of_le A151.lt g164)
    have ge168 : n0 ≤ vb162 := Nat.le_trans zs154 g164
    have zs169 : n0 ≤ T161.heap.size := Nat.le_trans zs154 K161.1
    have pre170 : own_Go p e below S0 (T161.setTop (mkF m 92 #[.val (.int p1), .val (.int p2), .val (.int p3), .val (.int p4), .val (.int p5), .val (.int 3), .val (.int y0), .val (.int y1), .val (.int y2), .val (.int y3), .val (.ref b138), .val (.ref b151), .val (.int 0)] [])) := by
      intro t kt
      refine pre157 t ?_
      refine st161.trans ?_
      show Steps p.tables e below (T161.setTop (mkF m 87 #[.val (.int p1), .val (.int p2), .val (.int p3), .val (.int p4), .val (.int p5), .val (.int 3), .val (.int y0), .val (.int y1), .val (.int y2), .val (.int y3), .val (.ref b138), .unset, .unset] [(.ref b151)])) _
      refine XS.astore X161.here hx rfl (hb hby at_87) rfl rfl (l' := #[.val (.int p1), .val (.int p2), .val (.int p3), .val (.int p4), .val (.int p5), .val (.int 3), .val (.int y0), .val (.int y1), .val (.int y2), .val (.int y3), .val (.ref b138), .val (.ref b151), .unset]) rfl ?_
      refine XS.iconst X161.here hx rfl (hb hby at_89) ?_
      refine XS.istore X161.here hx rfl (hb hby at_90) rfl (l' := #[.val (.int p1), .val (.int p2), .val (.int p3), .val (.int p4), .val (.int p5), .val (.int 3), .val (.int y0), .val (.int y1), .val (.int y2), .val (.int y3), .val (.ref b138), .val (.ref b151), .val (.int 0)]) rfl ?_
      exact kt
    obtain ⟨Tj171, lj171, Xj171, Nj171, ej171, prej171⟩ : ∃ (Tj171 : State) (lj171 : List Loc), Stand p l e room_1 s m #[(.int p1), (.int p2), (.int p3), (.int p4), (.int p5)] below meth c Tj171 lj171 4 16 ∧ Fr n0 lj171 ∧ Tj171.heap = T161.heap ∧ own_Go p e below S0 (Tj171.setTop (mkF m 108 #[.val (.int p1), .val (.int p2), .val (.int p3), .val (.int p4), .val (.int p5), .val (.int 3), .val (.int y0), .val (.int y1), .val (.int y2), .val (.int y3), .val (.ref b138), .val (.ref b151), .val (.int (own_e (0 : Int32) y0))] [])) := by
      have pre172 : own_Go p e below S0 (T161.setTop (mkF m 99 #[.val (.int p1), .val (.int p2), .val (.int p3), .val (.int p4), .val (.int p5), .val (.int 3), .val (.int y0), .val (.int y1), .val (.int y2), .val (.int y3), .val (.ref b138), .val (.ref b151), .val (.int 0)] [(.int y0)])) := by
        intro t kt
        refine pre170 t ?_
        refine XS.iload X161.here hx rfl (hb hby at_92) rfl ?_
        refine XS.ifNo X161.here hx rfl (hb hby at_94) rfl ((if0 _ _).trans (tlt (by decide : (0 : Int32) < (3 : Int32))).2.2.2) ?_
        refine XS.iload X161.here hx rfl (hb hby at_97) rfl ?_
        exact kt
      obtain ⟨_, _, ⟨T173, L173, k173, n173⟩, -, X173, ⟨Lc173, hQ173, l173, y173, z173⟩, st173⟩ := Jvm.LawKit.callS X161 hx (y := own_m2) hown (mvT hZ (hw _ (own_w 48 rfl))) (mvT hZ (hw _ (own_w 49 rfl))) (mvT hZ (hw _ (own_w 50 rfl))) (mvT hZ (hw _ (own_w 51 rfl))) (by decide) (backOf (W := 0) (rm10 l Z a0 hw [] y0 T161.heap n0 zs169 ) hZ (hw _ (own_w 51 rfl)) (hw _ (own_w 50 rfl)) (by decide) (by decide)) (g := (mkF m 99 #[.val (.int p1), .val (.int p2), .val (.int p3), .val (.int p4), .val (.int p5), .val (.int 3), .val (.int y0), .val (.int y1), .val (.int y2), .val (.int y3), .val (.ref b138), .val (.ref b151), .val (.int 0)] [(.int y0)])) rfl (by rw [hml]; rfl) (argsL := [(.int y0)]) (rest := []) (lenOf pd_16 rfl) rfl (by show 2 * 0 + _ ≤ _; exact Nat.le_of_eq rfl) (hb hby at_99) (fun _ _ => ⟨rfl, rfl, (by decide : 4 + 0 ≤ _), (by decide : 16 + 0 ≤ _)⟩)
      dsimp only [Pt.U, Pt.locs, Pt.cells, Pt.slots] at X173 l173 y173 z173 st173 hQ173
      subst l173 y173 z173
      obtain ⟨rfl, Nq173, eq173⟩ := hQ173
      have N173 := Fr.app N161 Nq173
      have pre175 : own_Go p e below S0 (T173.setTop (mkF m 102 #[.val (.int p1), .val (.int p2), .val (.int p3), .val (.int p4), .val (.int p5), .val (.int 3), .val (.int y0), .val (.int y1), .val (.int y2), .val (.int y3), .val (.ref b138), .val (.ref b151), .val (.int 0)] [(.int (own_ctl y0))])) := by
        intro t kt
        refine pre172 t ?_
        refine st173 _ ?_
        show Steps p.tables e below (T173.setTop (mkF m 102 #[.val (.int p1), .val (.int p2), .val (.int p3), .val (.int p4), .val (.int p5), .val (.int 3), .val (.int y0), .val (.int y1), .val (.int y2), .val (.int y3), .val (.ref b138), .val (.ref b151), .val (.int 0)] [(.int (own_ctl y0))])) _
        exact kt
      by_cases hc174 : (own_ctl y0) = (0 : Int32)
      · have pre176 : own_Go p e below S0 (T173.setTop (mkF m 108 #[.val (.int p1), .val (.int p2), .val (.int p3), .val (.int p4), .val (.int p5), .val (.int 3), .val (.int y0), .val (.int y1), .val (.int y2), .val (.int y3), .val (.ref b138), .val (.ref b151), .val (.int 0)] [])) := by
          intro t kt
          refine pre175 t ?_
          refine XS.ifYes X173.here hx rfl (pc0 := 102) (pc' := 108) rfl (hb hby at_102) rfl ((if0 _ _).trans (teq hc174).1) (by decide) (by decide) ?_
          exact kt
        have pre177 : own_Go p e below S0 (T173.setTop (mkF m 108 #[.val (.int p1), .val (.int p2), .val (.int p3), .val (.int p4), .val (.int p5), .val (.int 3), .val (.int y0), .val (.int y1), .val (.int y2), .val (.int y3), .val (.ref b138), .val (.ref b151), .val (.int (own_e (0 : Int32) y0))] [])) := by
          intro t kt
          refine pre176 t ?_
          exact castTop (by rw [own_eA (p := (0 : Int32)) hc174]) kt
        exact ⟨T173, _, (Stand.mono X173 (by decide) (by decide)), N173, eq173, pre177⟩
      · have pre178 : own_Go p e below S0 (T173.setTop (mkF m 108 #[.val (.int p1), .val (.int p2), .val (.int p3), .val (.int p4), .val (.int p5), .val (.int 3), .val (.int y0), .val (.int y1), .val (.int y2), .val (.int y3), .val (.ref b138), .val (.ref b151), .val (.int 1)] [])) := by
          intro t kt
          refine pre175 t ?_
          refine XS.ifNo X173.here hx rfl (hb hby at_102) rfl ((if0 _ _).trans (feq hc174).1) ?_
          refine XS.iconst X173.here hx rfl (hb hby at_105) ?_
          refine XS.istore X173.here hx rfl (hb hby at_106) rfl (l' := #[.val (.int p1), .val (.int p2), .val (.int p3), .val (.int p4), .val (.int p5), .val (.int 3), .val (.int y0), .val (.int y1), .val (.int y2), .val (.int y3), .val (.ref b138), .val (.ref b151), .val (.int 1)]) rfl ?_
          exact kt
        have pre179 : own_Go p e below S0 (T173.setTop (mkF m 108 #[.val (.int p1), .val (.int p2), .val (.int p3), .val (.int p4), .val (.int p5), .val (.int 3), .val (.int y0), .val (.int y1), .val (.int y2), .val (.int y3), .val (.ref b138), .val (.ref b151), .val (.int (own_e (0 : Int32) y0))] [])) := by
          intro t kt
          refine pre178 t ?_
          exact castTop (by rw [own_eB (p := (0 : Int32)) hc174]) kt
        exact ⟨T173, _, (Stand.mono X173 (by decide) (by decide)), N173, eq173, pre179⟩
    obtain ⟨Tj180, lj180, Xj180, Nj180, ej180, prej180⟩ : ∃ (Tj180 : State) (lj180 : List Loc), Stand p l e room_1 s m #[(.int p1), (.int p2), (.int p3), (.int p4), (.int p5)] below meth c Tj180 lj180 4 16 ∧ Fr n0 lj180 ∧ Tj180.heap = T161.heap ∧ own_Go p e below S0 (Tj180.setTop (mkF m 125 #[.val (.int p1), .val (.int p2), .val (.int p3), .val (.int p4), .val (.int p5), .val (.int 3), .val (.int y0), .val (.int y1), .val (.int y2), .val (.int y3), .val (.ref b138), .val (.ref b151), .val (.int (own_e (own_e (0 : Int32) y0) y1))] [])) := by
      have pre181 : own_Go p e below S0 (Tj171.setTop (mkF m 116 #[.val (.int p1), .val (.int p2), .val (.int p3), .val (.int p4), .val (.int p5), .val (.int 3), .val (.int y0), .val (.int y1), .val (.int y2), .val (.int y3), .val (.ref b138), .val (.ref b151), .val (.int (own_e (0 : Int32) y0))] [(.int y1)])) := by
        intro t kt
        refine prej171 t ?_
        refine XS.iload Xj171.here hx rfl (hb hby at_108) rfl ?_
        refine XS.iconst Xj171.here hx rfl (hb hby at_110) ?_
        refine XS.icmpNo Xj171.here hx rfl (hb hby at_111) rfl (tlt (by decide : (1 : Int32) < (3 : Int32))).2.2.2 ?_
        refine XS.iload Xj171.here hx rfl (hb hby at_114) rfl ?_
        exact kt
      obtain ⟨_, _, ⟨T182, L182, k182, n182⟩, -, X182, ⟨Lc182, hQ182, l182, y182, z182⟩, st182⟩ := Jvm.LawKit.callS Xj171 hx (y := own_m2) hown (mvT hZ (hw _ (own_w 48 rfl))) (mvT hZ (hw _ (own_w 49 rfl))) (mvT hZ (hw _ (own_w 50 rfl))) (mvT hZ (hw _ (own_w 51 rfl))) (by decide) (backOf (W := 0) (rm10 l Z a0 hw [] y1 T161.heap n0 zs169 ) hZ (hw _ (own_w 51 rfl)) (hw _ (own_w 50 rfl)) (by decide) (by decide)) (g := (mkF m 116 #[.val (.int p1), .val (.int p2), .val (.int p3), .val (.int p4), .val (.int p5), .val (.int 3), .val (.int y0), .val (.int y1), .val (.int y2), .val (.int y3), .val (.ref b138), .val (.ref b151), .val (.int (own_e (0 : Int32) y0))] [(.int y1)])) rfl (by rw [hml]; rfl) (argsL := [(.int y1)]) (rest := []) (lenOf pd_16 rfl) rfl (by show 2 * 0 + _ ≤ _; exact Nat.le_of_eq rfl) (hb hby at_116) (fun _ _ => ⟨rfl, ej171, (by decide : 4 + 0 ≤ _), (by decide : 16 + 0 ≤ _)⟩)
      dsimp only [Pt.U, Pt.locs, Pt.cells, Pt.slots] at X182 l182 y182 z182 st182 hQ182
      subst l182 y182 z182
      obtain ⟨rfl, Nq182, eq182⟩ := hQ182
      have N182 := Fr.app Nj171 Nq182
      have pre184 : own_Go p e below S0 (T182.setTop (mkF m 119 #[.val (.int p1), .val (.int p2), .val (.int p3), .val (.int p4), .val (.int p5), .val (.int 3), .val (.int y0), .val (.int y1), .val (.int y2), .val (.int y3), .val (.ref b138), .val (.ref b151), .val (.int (own_e (0 : Int32) y0))] [(.int (own_ctl y1))])) := by
        intro t kt
        refine pre181 t ?_
        refine st182 _ ?_
        show Steps p.tables e below (T182.setTop (mkF m 119 #[.val (.int p1), .val (.int p2), .val (.int p3), .val (.int p4), .val (.int p5), .val (.int 3), .val (.int y0), .val (.int y1), .val (.int y2), .val (.int y3), .val (.ref b138), .val (.ref b151), .val (.int (own_e (0 : Int32) y0))] [(.int (own_ctl y1))])) _
        exact kt
      by_cases hc183 : (own_ctl y1) = (0 : Int32)
      · have pre185 : own_Go p e below S0 (T182.setTop (mkF m 125 #[.val (.int p1), .val (.int p2), .val (.int p3), .val (.int p4), .val (.int p5), .val (.int 3), .val (.int y0), .val (.int y1), .val (.int y2), .val (.int y3), .val (.ref b138), .val (.ref b151), .val (.int (own_e (0 : Int32) y0))] [])) := by
          intro t kt
          refine pre184 t ?_
          refine XS.ifYes X182.here hx rfl (pc0 := 119) (pc' := 125) rfl (hb hby at_119) rfl ((if0 _ _).trans (teq hc183).1) (by decide) (by decide) ?_
          exact kt
        have pre186 : own_Go p e below S0 (T182.setTop (mkF m 125 #[.val (.int p1), .val (.int p2), .val (.int p3), .val (.int p4), .val (.int p5), .val (.int 3), .val (.int y0), .val (.int y1), .val (.int y2), .val (.int y3), .val (.ref b138), .val (.ref b151), .val (.int (own_e (own_e (0 : Int32) y0) y1))] [])) := by
          intro t kt
          refine pre185 t ?_
          exact castTop (by rw [own_eA (p := (own_e (0 : Int32) y0)) hc183]) kt
        exact ⟨T182, _, (Stand.mono X182 (by decide) (by decide)), N182, eq182, pre186⟩
      · have pre187 : own_Go p e below S0 (T182.setTop (mkF m 125 #[.val (.int p1), .val (.int p2), .val (.int p3), .val (.int p4), .val (.int p5), .val (.int 3), .val (.int y0), .val (.int y1), .val (.int y2), .val (.int y3), .val (.ref b138), .val (.ref b151), .val (.int 1)] [])) := by
          intro t kt
          refine pre184 t ?_
          refine XS.ifNo X182.here hx rfl (hb hby at_119) rfl ((if0 _ _).trans (feq hc183).1) ?_
          refine XS.iconst X182.here hx rfl (hb hby at_122) ?_
          refine XS.istore X182.here hx rfl (hb hby at_123) rfl (l' := #[.val (.int p1), .val (.int p2), .val (.int p3), .val (.int p4), .val (.int p5), .val (.int 3), .val (.int y0), .val (.int y1), .val (.int y2), .val (.int y3), .val (.ref b138), .val (.ref b151), .val (.int 1)]) rfl ?_
          exact kt
        have pre188 : own_Go p e below S0 (T182.setTop (mkF m 125 #[.val (.int p1), .val (.int p2), .val (.int p3), .val (.int p4), .val (.int p5), .val (.int 3), .val (.int y0), .val (.int y1), .val (.int y2), .val (.int y3), .val (.ref b138), .val (.ref b151), .val (.int (own_e (own_e (0 : Int32) y0) y1))] [])) := by
          intro t kt
          refine pre187 t ?_
          exact castTop (by rw [own_eB (p := (own_e (0 : Int32) y0)) hc183]) kt
        exact ⟨T182, _, (Stand.mono X182 (by decide) (by decide)), N182, eq182, pre188⟩
    obtain ⟨Tj189, lj189, Xj189, Nj189, ej189, prej189⟩ : ∃ (Tj189 : State) (lj189 : List Loc), Stand p l e room_1 s m #[(.int p1), (.int p2), (.int p3), (.int p4), (.int p5)] below meth c Tj189 lj189 4 16 ∧ Fr n0 lj189 ∧ Tj189.heap = T161.heap ∧ own_Go p e below S0 (Tj189.setTop (mkF m 142 #[.val (.int p1), .val (.int p2), .val (.int p3), .val (.int p4), .val (.int p5), .val (.int 3), .val (.int y0), .val (.int y1), .val (.int y2), .val (.int y3), .val (.ref b138), .val (.ref b151), .val (.int (own_e (own_e (own_e (0 : Int32) y0) y1) y2))] [])) := by
      have pre190 : own_Go p e below S0 (Tj180.setTop (mkF m 133 #[.val (.int p1), .val (.int p2), .val (.int p3), .val (.int p4), .val (.int p5), .val (.int 3), .val (.int y0), .val (.int y1), .val (.int y2), .val (.int y3), .val (.ref b138), .val (.ref b151), .val (.int (own_e (own_e (0 : Int32) y0) y1))] [(.int y2)])) := by
        intro t kt
        refine prej180 t ?_
        refine XS.iload Xj180.here hx rfl (hb hby at_125) rfl ?_
        refine XS.iconst Xj180.here hx rfl (hb hby at_127) ?_
        refine XS.icmpNo Xj180.here hx rfl (hb hby at_128) rfl (tlt (by decide : (2 : Int32) < (3 : Int32))).2.2.2 ?_
        refine XS.iload Xj180.here hx rfl (hb hby at_131) rfl ?_
        exact kt
      obtain ⟨_, _, ⟨T191, L191, k191, n191⟩, -, X191, ⟨Lc191, hQ191, l191, y191, z191⟩, st191⟩ := Jvm.LawKit.callS Xj180 hx (y := own_m2) hown (mvT hZ (hw _ (own_w 48 rfl))) (mvT hZ (hw _ (own_w 49 rfl))) (mvT hZ (hw _ (own_w 50 rfl))) (mvT hZ (hw _ (own_w 51 rfl))) (by decide) (backOf (W := 0) (rm10 l Z a0 hw [] y2 T161.heap n0 zs169 ) hZ (hw _ (own_w 51 rfl)) (hw _ (own_w 50 rfl)) (by decide) (by decide)) (g := (mkF m 133 #[.val (.int p1), .val (.int p2), .val (.int p3), .val (.int p4), .val (.int p5), .val (.int 3), .val (.int y0), .val (.int y1), .val (.int y2), .val (.int y3), .val (.ref b138), .val (.ref b151), .val (.int (own_e (own_e (0 : Int32) y0) y1))] [(.int y2)])) rfl (by rw [hml]; rfl) (argsL := [(.int y2)]) (rest := []) (lenOf pd_16 rfl) rfl (by show 2 * 0 + _ ≤ _; exact Nat.le_of_eq rfl) (hb hby at_133) (fun _ _ => ⟨rfl, ej180, (by decide : 4 + 0 ≤ _), (by decide : 16 + 0 ≤ _)⟩)
      dsimp only [Pt.U, Pt.locs, Pt.cells, Pt.slots] at X191 l191 y191 z191 st191 hQ191
      subst l191 y191 z191
      obtain ⟨rfl, Nq191, eq191⟩ := hQ191
      have N191 := Fr.app Nj180 Nq191
      have pre193 : own_Go p e below S0 (T191.setTop (mkF m 136 #[.val (.int p1), .val (.int p2), .val (.int p3), .val (.int p4), .val (.int p5), .val (.int 3), .val (.int y0), .val (.int y1), .val (.int y2), .val (.int y3), .val (.ref b138), .val (.ref b151), .val (.int (own_e (own_e (0 : Int32) y0) y1))] [(.int (own_ctl y2))])) := by
        intro t kt
        refine pre190 t ?_
        refine st191 _ ?_
        show Steps p.tables e below (T191.setTop (mkF m 136 #[.val (.int p1), .val (.int p2), .val (.int p3), .val (.int p4), .val (.int p5), .val (.int 3), .val (.int y0), .val (.int y1), .val (.int y2), .val (.int y3), .val (.ref b138), .val (.ref b151), .val (.int (own_e (own_e (0 : Int32) y0) y1))] [(.int (own_ctl y2))])) _
        exact kt
      by_cases hc192 : (own_ctl y2) = (0 : Int32)
      · have pre194 : own_Go p e below S0 (T191.setTop (mkF m 142 #[.val (.int p1), .val (.int p2), .val (.int p3), .val (.int p4), .val (.int p5), .val (.int 3), .val (.int y0), .val (.int y1), .val (.int y2), .val (.int y3), .val (.ref b138), .val (.ref b151), .val (.int (own_e (own_e (0 : Int32) y0) y1))] [])) := by
          intro t kt
          refine pre193 t ?_
          refine XS.ifYes X191.here hx rfl (pc0 := 136) (pc' := 142) rfl (hb hby at_136) rfl ((if0 _ _).trans (teq hc192).1) (by decide) (by decide) ?_
          exact kt
        have pre195 : own_Go p e below S0 (T191.setTop (mkF m 142 #[.val (.int p1), .val (.int p2), .val (.int p3), .val (.int p4), .val (.int p5), .val (.int 3), .val (.int y0), .val (.int y1), .val (.int y2), .val (.int y3), .val (.ref b138), .val (.ref b151), .val (.int (own_e (own_e (own_e (0 : Int32) y0) y1) y2))] [])) := by
          intro t kt
          refine pre194 t ?_
          exact castTop (by rw [own_eA (p := (own_e (own_e (0 : Int32) y0) y1)) hc192]) kt
        exact ⟨T191, _, (Stand.mono X191 (by decide) (by decide)), N191, eq191, pre195⟩
      · have pre196 : own_Go p e below S0 (T191.setTop (mkF m 142 #[.val (.int p1), .val (.int p2), .val (.int p3), .val (.int p4), .val (.int p5), .val (.int 3), .val (.int y0), .val (.int y1), .val (.int y2), .val (.int y3), .val (.ref b138), .val (.ref b151), .val (.int 1)] [])) := by
          intro t kt
          refine pre193 t ?_
          refine XS.ifNo X191.here hx rfl (hb hby at_136) rfl ((if0 _ _).trans (feq hc192).1) ?_
          refine XS.iconst X191.here hx rfl (hb hby at_139) ?_
          refine XS.istore X191.here hx rfl (hb hby at_140) rfl (l' := #[.val (.int p1), .val (.int p2), .val (.int p3), .val (.int p4), .val (.int p5), .val (.int 3), .val (.int y0), .val (.int y1), .val (.int y2), .val (.int y3), .val (.ref b138), .val (.ref b151), .val (.int 1)]) rfl ?_
          exact kt
        have pre197 : own_Go p e below S0 (T191.setTop (mkF m 142 #[.val (.int p1), .val (.int p2), .val (.int p3), .val (.int p4), .val (.int p5), .val (.int 3), .val (.int y0), .val (.int y1), .val (.int y2), .val (.int y3), .val (.ref b138), .val (.ref b151), .val (.int (own_e (own_e (own_e (0 : Int32) y0) y1) y2))] [])) := by
          intro t kt
          refine pre196 t ?_
          exact castTop (by rw [own_eB (p := (own_e (own_e (0 : Int32) y0) y1)) hc192]) kt
        exact ⟨T191, _, (Stand.mono X191 (by decide) (by decide)), N191, eq191, pre197⟩
    have pre198 : own_Go p e below S0 (Tj189.setTop (mkF m 161 #[.val (.int p1), .val (.int p2), .val (.int p3), .val (.int p4), .val (.int p5), .val (.int 3), .val (.int y0), .val (.int y1), .val (.int y2), .val (.int y3), .val (.ref b138), .val (.ref b151), .val (.int (own_e (own_e (own_e (0 : Int32) y0) y1) y2))] [(.ref b151)])) := by
      intro t kt
      refine prej189 t ?_
      refine XS.iload Xj189.here hx rfl (hb hby at_142) rfl ?_
      refine XS.iconst Xj189.here hx rfl (hb hby at_144) ?_
      refine XS.icmpYes Xj189.here hx rfl (pc0 := 145) (pc' := 159) rfl (hb hby at_145) rfl (flt (by decide : ¬ ((3 : Int32) < (3 : Int32)))).2.2.2 (by decide) (by decide) ?_
      refine XS.aload Xj189.here hx rfl (hb hby at_159) rfl rfl ?_
      exact kt
    have f199 : Old Z n0 T161.heap := (f159.keep K161 (allS ge153 all0))
    obtain ⟨_, _, ⟨T200, L200, k200, n200⟩, -, X200, ⟨Lc200, hQ200, l200, y200, z200⟩, st200⟩ := Jvm.LawKit.callS Xj189 hx (y := own_m0) hown (mvT hZ (hw _ (own_w 23 rfl))) (mvT hZ (hw _ (own_w 24 rfl))) (mvT hZ (hw _ (own_w 25 rfl))) (mvT hZ (hw _ (own_w 26 rfl))) (by decide) (backOf (W := 0) (rmany3 l Z a0 hw [] b151 wC wF vb162 kb163 (nar .char y0) (nar .char y1) (nar .char y2) T161.heap n0 zs169 f199 qC qU qF g165) hZ (hw _ (own_w 26 rfl)) (hw _ (own_w 25 rfl)) (by decide) (by decide)) (g := (mkF m 161 #[.val (.int p1), .val (.int p2), .val (.int p3), .val (.int p4), .val (.int p5), .val (.int 3), .val (.int y0), .val (.int y1), .val (.int y2), .val (.int y3), .val (.ref b138), .val (.ref b151), .val (.int (own_e (own_e (own_e (0 : Int32) y0) y1) y2))] [(.ref b151)])) rfl (by rw [hml]; rfl) (argsL := [(.ref b151)]) (rest := []) (lenOf pd_18 rfl) rfl (by show 2 * 0 + _ ≤ _; exact Nat.le_of_eq rfl) (hb hby at_161) (fun _ _ => ⟨rfl, ej189, (by decide : 4 + 0 ≤ _), (by decide : 16 + 0 ≤ _)⟩)
    dsimp only [Pt.U, Pt.locs, Pt.cells, Pt.slots] at X200 l200 y200 z200 st200 hQ200
    subst l200 y200 z200
    obtain ⟨rfl, Nq200, eq200⟩ := hQ200
    have N200 := Fr.app Nj189 Nq200
    have pre201 : own_Go p e below S0 (T200.setTop (mkF m 174 #[.val (.int p1), .val (.int p2), .val (.int p3), .val (.int p4), .val (.int p5), .val (.int 3), .val (.int y0), .val (.int y1), .val (.int y2), .val (.int y3), .val (.ref b138), .val (.ref b151), .val (.int (own_e (own_e (own_e (0 : Int32) y0) y1) y2))] [(.int 1)])) := by
      intro t kt
      refine pre198 t ?_
      refine st200 _ ?_
      show Steps p.tables e below (T200.setTop (mkF m 164 #[.val (.int p1), .val (.int p2), .val (.int p3), .val (.int p4), .val (.int p5), .val (.int 3), .val (.int y0), .val (.int y1), .val (.int y2), .val (.int y3), .val (.ref b138), .val (.ref b151), .val (.int (own_e (own_e (own_e (0 : Int32) y0) y1) y2))] [(.int (own_any3 (nar .char y0) (nar .char y1) (nar .char y2)))])) _
      refine XS.iload X200.here hx rfl (hb hby at_164) rfl ?_
      refine XS.icmpNo X200.here hx rfl (hb hby at_166) rfl (teq ((own_anyE3 _ _ _).trans (by rw [pj3, pj4, pj5]))).2 ?_
      refine XS.iconst X200.here hx rfl (hb hby at_169) ?_
      refine XS.goto X200.here hx rfl (pc0 := 170) (pc' := 174) rfl (hb hby at_170) (by decide) (by decide) ?_
      exact kt
    obtain ⟨fs, hr, hrun, hended, hW, hsame⟩ := X200.leave (v := some (.int 1)) (fun h => by rw [Bd.returns] at h; cases h)
    refine ⟨_, _, fin _ (pre201 _ ?_), hrun, hended, _, _, rfl, ?_, own_wideMono (ReturnedEndW.of_narrow ⟨_, rfl⟩ hW hsame) (by decide) (by decide)⟩
    · exact retN X200 hx (t := .boolean) Bd.returns (by simp) (hb hby at_174) hr
    · show Q0 Z p1 p2 p3 p4 p5 wC wF h0 n0 _ T200.heap _
      rw [eq200]
      exact ⟨rfl, N200⟩
  · have pre202 : own_Go p e below S0 (Tj2.setTop (mkF m 25 #[.val (.int p1), .val (.int p2), .val (.int p3), .val (.int p4), .val (.int p5), .val (.int 4), .val (.int y0), .val (.int y1), .val (.int y2), .val (.int y3), .unset, .unset, .unset] [])) := by
      intro t kt
      refine prej2 t ?_
      rw [hk]
      exact kt
    have pre203 : own_Go p e below S0 (Tj2.setTop (mkF m 27 #[.val (.int p1), .val (.int p2), .val (.int p3), .val (.int p4), .val (.int p5), .val (.int 4), .val (.int y0), .val (.int y1), .val (.int y2), .val (.int y3), .unset, .unset, .unset] [(.int 4)])) := by
      intro t kt
      refine pre202 t ?_
      refine XS.iload Xj2.here hx rfl (hb hby at_25) rfl ?_
      exact kt
    obtain ⟨T204, h204, k204, X204, e204, E204, A204, st204⟩ := newP Xj2 hx hZ (hw _ (own_w 1 rfl)) ej2 (g := (mkF m 27 #[.val (.int p1), .val (.int p2), .val (.int p3), .val (.int p4), .val (.int p5), .val (.int 4), .val (.int y0), .val (.int y1), .val (.int y2), .val (.int y3), .unset, .unset, .unset] [(.int 4)])) rfl (hb hby at_27) rfl (by decide) (cap := 4) (by decide) (by decide) (by decide) (by decide)
    obtain ⟨b204, g204⟩ : ∃ z, z = h0.size := ⟨_, rfl⟩
    rw [← g204] at A204 st204
    have ge205 : n0 ≤ b204 := Nat.le_trans Z0 (Nat.le_of_eq g204.symm)
    have zs206 : n0 ≤ h204.size := Nat.le_trans Z0 E204.1
    have V204 : Arv Z h204 b204 k204 .char (4 : Int32) [(.int 0), (.int 0), (.int 0), (.int 0)] (.int 0) := (Arv.new A204 (by decide)).pad (pad_rep [] (.int 0) 4)
    have pre207 : own_Go p e below S0 (T204.setTop (mkF m 41 #[.val (.int p1), .val (.int p2), .val (.int p3), .val (.int p4), .val (.int p5), .val (.int 4), .val (.int y0), .val (.int y1), .val (.int y2), .val (.int y3), .val (.ref b204), .unset, .unset] [(.int y0), (.int 0), (.ref b204)])) := by
      intro t kt
      refine pre203 t ?_
      refine st204 _ ?_
      refine XS.astore X204.here hx rfl (hb hby at_29) rfl rfl (l' := #[.val (.int p1), .val (.int p2), .val (.int p3), .val (.int p4), .val (.int p5), .val (.int 4), .val (.int y0), .val (.int y1), .val (.int y2), .val (.int y3), .val (.ref b204), .unset, .unset]) rfl ?_
      refine XS.iload X204.here hx rfl (hb hby at_31) rfl ?_
      refine XS.ifNo X204.here hx rfl (hb hby at_33) rfl ((if0 _ _).trans (tlt (by decide : (0 : Int32) < (4 : Int32))).2.2.2) ?_
      refine XS.aload X204.here hx rfl (hb hby at_36) rfl rfl ?_
      refine XS.iconst X204.here hx rfl (hb hby at_38) ?_
      show Steps p.tables e below (T204.setTop (mkF m 39 #[.val (.int p1), .val (.int p2), .val (.int p3), .val (.int p4), .val (.int p5), .val (.int 4), .val (.int y0), .val (.int y1), .val (.int y2), .val (.int y3), .val (.ref b204), .unset, .unset] [(.int 0), (.ref b204)])) _
      refine XS.iload X204.here hx rfl (hb hby at_39) rfl ?_
      exact kt
    obtain ⟨cl208, Ar208, q208, Sz208, Ng208, Hs208, Gt208⟩ := id V204
    have hin208 : ¬ ((0 : Int32) < 0 ∨ cl208.slots.size ≤ ((0 : Int32)).toNatClampNeg) := inb_of Sz208 ⟨by decide, by decide⟩
    obtain ⟨T208, h208, X208, e208, W208, st208⟩ := stC X204 hx hZ e204 Ar208 (j := (0 : Int32)) hin208 (g := (mkF m 41 #[.val (.int p1), .val (.int p2), .val (.int p3), .val (.int p4), .val (.int p5), .val (.int 4), .val (.int y0), .val (.int y1), .val (.int y2), .val (.int y3), .val (.ref b204), .unset, .unset] [(.int y0), (.int 0), (.ref b204)])) rfl rfl (hb hby at_41)
    have N208 := Fr.snoc X208 Nj2 ge205
    have zs209 : n0 ≤ h208.size := Nat.le_trans zs206 (Keep.of_wr W208).1
    have V208 : Arv Z h208 b204 k204 .char (4 : Int32) [(.int (nar .char y0)), (.int 0), (.int 0), (.int 0)] (.int 0) := Arv.set Ar208 q208 Sz208 Ng208 Hs208 Gt208 (fits_nar_char _) W208 0 rfl (Nat.le_of_ble_eq_true rfl)
    have pre210 : own_Go p e below S0 (T208.setTop (mkF m 53 #[.val (.int p1), .val (.int p2), .val (.int p3), .val (.int p4), .val (.int p5), .val (.int 4), .val (.int y0), .val (.int y1), .val (.int y2), .val (.int y3), .val (.ref b204), .unset, .unset] [(.int y1), (.int 1), (.ref b204)])) := by
      intro t kt
      refine pre207 t ?_
      refine st208 _ ?_
      refine XS.iload X208.here hx rfl (hb hby at_42) rfl ?_
      refine XS.iconst X208.here hx rfl (hb hby at_44) ?_
      refine XS.icmpNo X208.here hx rfl (hb hby at_45) rfl (tlt (by decide : (1 : Int32) < (4 : Int32))).2.2.2 ?_
      refine XS.aload X208.here hx rfl (hb hby at_48) rfl rfl ?_
      refine XS.iconst X208.here hx rfl (hb hby at_50) ?_
      show Steps p.tables e below (T208.setTop (mkF m 51 #[.val (.int p1), .val (.int p2), .val (.int p3), .val (.int p4), .val (.int p5), .val (.int 4), .val (.int y0), .val (.int y1), .val (.int y2), .val (.int y3), .val (.ref b204), .unset, .unset] [(.int 1), (.ref b204)])) _
      refine XS.iload X208.here hx rfl (hb hby at_51) rfl ?_
      exact kt
    obtain ⟨cl211, Ar211, q211, Sz211, Ng211, Hs211, Gt211⟩ := id V208
    have hin211 : ¬ ((1 : Int32) < 0 ∨ cl211.slots.size ≤ ((1 : Int32)).toNatClampNeg) := inb_of Sz211 ⟨by decide, by decide⟩
    obtain ⟨T211, h211, X211, e211, W211, st211⟩ := stC X208 hx hZ e208 Ar211 (j := (1 : Int32)) hin211 (g := (mkF m 53 #[.val (.int p1), .val (.int p2), .val (.int p3), .val (.int p4), .val (.int p5), .val (.int 4), .val (.int y0), .val (.int y1), .val (.int y2), .val (.int y3), .val (.ref b204), .unset, .unset] [(.int y1), (.int 1), (.ref b204)])) rfl rfl (hb hby at_53)
    have N211 := Fr.snoc X211 N208 ge205
    have zs212 : n0 ≤ h211.size := Nat.le_trans zs209 (Keep.of_wr W211).1
    have V211 : Arv Z h211 b204 k204 .char (4 : Int32) [(.int (nar .char y0)), (.int (nar .char y1)), (.int 0), (.int 0)] (.int 0) := Arv.set Ar211 q211 Sz211 Ng211 Hs211 Gt211 (fits_nar_char _) W211 1 rfl (Nat.le_of_ble_eq_true rfl)
    have pre213 : own_Go p e below S0 (T211.setTop (mkF m 65 #[.val (.int p1), .val (.int p2), .val (.int p3), .val (.int p4), .val (.int p5), .val (.int 4), .val (.int y0), .val (.int y1), .val (.int y2), .val (.int y3), .val (.ref b204), .unset, .unset] [(.int y2), (.int 2), (.ref b204)])) := by
      intro t kt
      refine pre210 t ?_
      refine st211 _ ?_
      refine XS.iload X211.here hx rfl (hb hby at_54) rfl ?_
      refine XS.iconst X211.here hx rfl (hb hby at_56) ?_
      refine XS.icmpNo X211.here hx rfl (hb hby at_57) rfl (tlt (by decide : (2 : Int32) < (4 : Int32))).2.2.2 ?_
      refine XS.aload X211.here hx rfl (hb hby at_60) rfl rfl ?_
      refine XS.iconst X211.here hx rfl (hb hby at_62) ?_
      show Steps p.tables e below (T211.setTop (mkF m 63 #[.val (.int p1), .val (.int p2), .val (.int p3), .val (.int p4), .val (.int p5), .val (.int 4), .val (.int y0), .val (.int y1), .val (.int y2), .val (.int y3), .val (.ref b204), .unset, .unset] [(.int 2), (.ref b204)])) _
      refine XS.iload X211.here hx rfl (hb hby at_63) rfl ?_
      exact kt
    obtain ⟨cl214, Ar214, q214, Sz214, Ng214, Hs214, Gt214⟩ := id V211
    have hin214 : ¬ ((2 : Int32) < 0 ∨ cl214.slots.size ≤ ((2 : Int32)).toNatClampNeg) := inb_of Sz214 ⟨by decide, by decide⟩
    obtain ⟨T214, h214, X214, e214, W214, st214⟩ := stC X211 hx hZ e211 Ar214 (j := (2 : Int32)) hin214 (g := (mkF m 65 #[.val (.int p1), .val (.int p2), .val (.int p3), .val (.int p4), .val (.int p5), .val (.int 4), .val (.int y0), .val (.int y1), .val (.int y2), .val (.int y3), .val (.ref b204), .unset, .unset] [(.int y2), (.int 2), (.ref b204)])) rfl rfl (hb hby at_65)
    have N214 := Fr.snoc X214 N211 ge205
    have zs215 : n0 ≤ h214.size := Nat.le_trans zs212 (Keep.of_wr W214).1
    have V214 : Arv Z h214 b204 k204 .char (4 : Int32) [(.int (nar .char y0)), (.int (nar .char y1)), (.int (nar .char y2)), (.int 0)] (.int 0) := Arv.set Ar214 q214 Sz214 Ng214 Hs214 Gt214 (fits_nar_char _) W214 2 rfl (Nat.le_of_ble_eq_true rfl)
    have pre216 : own_Go p e below S0 (T214.setTop (mkF m 77 #[.val (.int p1), .val (.int p2), .val (.int p3), .val (.int p4), .val (.int p5), .val (.int 4), .val (.int y0), .val (.int y1), .val (.int y2), .val (.int y3), .val (.ref b204), .unset, .unset] [(.int y3), (.int 3), (.ref b204)])) := by
      intro t kt
      refine pre213 t ?_
      refine st214 _ ?_
      refine XS.iload X214.here hx rfl (hb hby at_66) rfl ?_
      refine XS.iconst X214.here hx rfl (hb hby at_68) ?_
      refine XS.icmpNo X214.here hx rfl (hb hby at_69) rfl (tlt (by decide : (3 : Int32) < (4 : Int32))).2.2.2 ?_
      refine XS.aload X214.here hx rfl (hb hby at_72) rfl rfl ?_
      refine XS.iconst X214.here hx rfl (hb hby at_74) ?_
      show Steps p.tables e below (T214.setTop (mkF m 75 #[.val (.int p1), .val (.int p2), .val (.int p3), .val (.int p4), .val (.int p5), .val (.int 4), .val (.int y0), .val (.int y1), .val (.int y2), .val (.int y3), .val (.ref b204), .unset, .unset] [(.int 3), (.ref b204)])) _
      refine XS.iload X214.here hx rfl (hb hby at_75) rfl ?_
      exact kt
    obtain ⟨cl217, Ar217, q217, Sz217, Ng217, Hs217, Gt217⟩ := id V214
    have hin217 : ¬ ((3 : Int32) < 0 ∨ cl217.slots.size ≤ ((3 : Int32)).toNatClampNeg) := inb_of Sz217 ⟨by decide, by decide⟩
    obtain ⟨T217, h217, X217, e217, W217, st217⟩ := stC X214 hx hZ e214 Ar217 (j := (3 : Int32)) hin217 (g := (mkF m 77 #[.val (.int p1), .val (.int p2), .val (.int p3), .val (.int p4), .val (.int p5), .val (.int 4), .val (.int y0), .val (.int y1), .val (.int y2), .val (.int y3), .val (.ref b204), .unset, .unset] [(.int y3), (.int 3), (.ref b204)])) rfl rfl (hb hby at_77)
    have N217 := Fr.snoc X217 N214 ge205
    have zs218 : n0 ≤ h217.size := Nat.le_trans zs215 (Keep.of_wr W217).1
    have V217 : Arv Z h217 b204 k204 .char (4 : Int32) [(.int (nar .char y0)), (.int (nar .char y1)), (.int (nar .char y2)), (.int (nar .char y3))] (.int 0) := Arv.set Ar217 q217 Sz217 Ng217 Hs217 Gt217 (fits_nar_char _) W217 3 rfl (Nat.le_of_ble_eq_true rfl)
    have pre219 : own_Go p e below S0 (T217.setTop (mkF m 78 #[.val (.int p1), .val (.int p2), .val (.int p3), .val (.int p4), .val (.int p5), .val (.int 4), .val (.int y0), .val (.int y1), .val (.int y2), .val (.int y3), .val (.ref b204), .unset, .unset] [])) := by
      intro t kt
      refine pre216 t ?_
      refine st217 _ ?_
      exact kt
    obtain ⟨T220, h220, X220, e220, E220, A220, D220, -, st220⟩ := newO X217 hx hZ hown (hw _ (own_w 2 rfl)) (hw _ (own_w 3 rfl)) (hw _ (own_w 4 rfl)) e217 (g := (mkF m 78 #[.val (.int p1), .val (.int p2), .val (.int p3), .val (.int p4), .val (.int p5), .val (.int 4), .val (.int y0), .val (.int y1), .val (.int y2), .val (.int y3), .val (.ref b204), .unset, .unset] [])) rfl (hb hby at_78) (by decide) (by decide)
    obtain ⟨b220, g220⟩ : ∃ z, z = h217.size := ⟨_, rfl⟩
    rw [← g220] at A220 D220 st220
    have ne221 : b204 ≠ b220 := Nat.ne_of_lt (Nat.lt_of_lt_of_le V217.lt (Nat.le_of_eq g220.symm))
    have ge222 : n0 ≤ b220 := Nat.le_trans zs218 (Nat.le_of_eq g220.symm)
    have zs223 : n0 ≤ h220.size := Nat.le_trans zs218 E220.1
    have fd224 : Fld Z h220 b220 "java/lang/String" "value" "[B" .null := D220 (Or.inr (hw _ (own_w 17 rfl))) (ty := (.array .byte)) (by decide)
    have fd225 : Fld Z h220 b220 "java/lang/String" "coder" "B" (.int 0) := D220 (Or.inr (hw _ (own_w 18 rfl))) (ty := .byte) (by decide)
    have pre226 : own_Go p e below S0 (T220.setTop (mkF m 84 #[.val (.int p1), .val (.int p2), .val (.int p3), .val (.int p4), .val (.int p5), .val (.int 4), .val (.int y0), .val (.int y1), .val (.int y2), .val (.int y3), .val (.ref b204), .unset, .unset] [(.ref b204), (.ref b220), (.ref b220)])) := by
      intro t kt
      refine pre219 t ?_
      refine st220 _ ?_
      refine XS.dup X220.here hx rfl (hb hby at_81) rfl rfl ?_
      refine XS.aload X220.here hx rfl (hb hby at_82) rfl rfl ?_
      exact kt
    have f227 := (((O0.ext E204).wr W208 ge205).wr W211 ge205)
    have f228 : Old Z n0 h220 := (((f227.wr W214 ge205).wr W217 ge205).ext E220)
    have f229 : Arv Z h220 b204 k204 .char (4 : Int32) [(.int (nar .char y0)), (.int (nar .char y1)), (.int (nar .char y2)), (.int (nar .char y3))] (.int 0) := (V217.ext E220)
    obtain ⟨_, _, ⟨T230, L230, k230, n230⟩, -, X230, ⟨Lc230, hQ230, l230, y230, z230⟩, st230⟩ := X220.specialBack hx (y := own_m3) rfl hown (mvT hZ (hw _ (own_w 5 rfl))) (mvT hZ (hw _ (own_w 6 rfl))) (mvT hZ (hw _ (own_w 7 rfl))) (by decide) (backOf (W := 1) (rminit1_4 l Z a0 hw [] b220 b204 k204 (nar .char y0) (nar .char y1) (nar .char y2) (nar .char y3) wC h220 n0 zs223 f228 qC qU A220 fd224 fd225 ge222 f229) hZ (hw _ (own_w 7 rfl)) (hw _ (own_w 4 rfl)) (by decide) (by decide)) (g := (mkF m 84 #[.val (.int p1), .val (.int p2), .val (.int p3), .val (.int p4), .val (.int p5), .val (.int 4), .val (.int y0), .val (.int y1), .val (.int y2), .val (.int y3), .val (.ref b204), .unset, .unset] [(.ref b204), (.ref b220), (.ref b220)])) rfl (by rw [hml]; rfl) (Steps.refl _) (a := b220) (argsL := [(.ref b204)]) (rest := [(.ref b220)]) (lenOf pd_17 rfl) rfl (by show 2 * 0 + _ ≤ _; exact Nat.le_of_eq rfl) (hb hby at_84) (fun _ _ => ⟨rfl, e220, (by decide : 2 + 2 ≤ _), (by decide : 8 + 12 ≤ _)⟩)
    dsimp only [Pt.U, Pt.locs, Pt.cells, Pt.slots] at X230 l230 y230 z230 st230 hQ230
    subst l230 y230 z230
    obtain ⟨vb231, kb232, rfl, Nq230, K230, g233, g234⟩ := hQ230
    have N230 := Fr.app N217 Nq230
    have ne235 : b204 ≠ vb231 := Nat.ne_of_lt (Nat.lt_of_lt_of_le f229.lt g233)
    have ne236 : b220 ≠ vb231 := Nat.ne_of_lt (Nat.lt_of_lt_of_le A220.lt g233)
    have ge237 : n0 ≤ vb231 := Nat.le_trans zs223 g233
    have zs238 : n0 ≤ T230.heap.size := Nat.le_trans zs223 K230.1
    have pre239 : own_Go p e below S0 (T230.setTop (mkF m 92 #[.val (.int p1), .val (.int p2), .val (.int p3), .val (.int p4), .val (.int p5), .val (.int 4), .val (.int y0), .val (.int y1), .val (.int y2), .val (.int y3), .val (.ref b204), .val (.ref b220), .val (.int 0)] [])) := by
      intro t kt
      refine pre226 t ?_
      refine st230.trans ?_
      show Steps p.tables e below (T230.setTop (mkF m 87 #[.val (.int p1), .val (.int p2), .val (.int p3), .val (.int p4), .val (.int p5), .val (.int 4), .val (.int y0), .val (.int y1), .val (.int y2), .val (.int y3), .val (.ref b204), .unset, .unset] [(.ref b220)])) _
      refine XS.astore X230.here hx rfl (hb hby at_87) rfl rfl (l' := #[.val (.int p1), .val (.int p2), .val (.int p3), .val (.int p4), .val (.int p5), .val (.int 4), .val (.int y0), .val (.int y1), .val (.int y2), .val (.int y3), .val (.ref b204), .val (.ref b220), .unset]) rfl ?_
      refine XS.iconst X230.here hx rfl (hb hby at_89) ?_
      refine XS.istore X230.here hx rfl (hb hby at_90) rfl (l' := #[.val (.int p1), .val (.int p2), .val (.int p3), .val (.int p4), .val (.int p5), .val (.int 4), .val (.int y0), .val (.int y1), .val (.int y2), .val (.int y3), .val (.ref b204), .val (.ref b220), .val (.int 0)]) rfl ?_
      exact kt
    obtain ⟨Tj240, lj240, Xj240, Nj240, ej240, prej240⟩ : ∃ (Tj240 : State) (lj240 : List Loc), Stand p l e room_1 s m #[(.int p1), (.int p2), (.int p3), (.int p4), (.int p5)] below meth c Tj240 lj240 4 20 ∧ Fr n0 lj240 ∧ Tj240.heap = T230.heap ∧ own_Go p e below S0 (Tj240.setTop (mkF m 108 #[.val (.int p1), .val (.int p2), .val (.int p3), .val (.int p4), .val (.int p5), .val (.int 4), .val (.int y0), .val (.int y1), .val (.int y2), .val (.int y3), .val (.ref b204), .val (.ref b220), .val (.int (own_e (0 : Int32) y0))] [])) := by
      have pre241 : own_Go p e below S0 (T230.setTop (mkF m 99 #[.val (.int p1), .val (.int p2), .val (.int p3), .val (.int p4), .val (.int p5), .val (.int 4), .val (.int y0), .val (.int y1), .val (.int y2), .val (.int y3), .val (.ref b204), .val (.ref b220), .val (.int 0)] [(.int y0)])) := by
        intro t kt
        refine pre239 t ?_
        refine XS.iload X230.here hx rfl (hb hby at_92) rfl ?_
        refine XS.ifNo X230.here hx rfl (hb hby at_94) rfl ((if0 _ _).trans (tlt (by decide : (0 : Int32) < (4 : Int32))).2.2.2) ?_
        refine XS.iload X230.here hx rfl (hb hby at_97) rfl ?_
        exact kt
      obtain ⟨_, _, ⟨T242, L242, k242, n242⟩, -, X242, ⟨Lc242, hQ242, l242, y242, z242⟩, st242⟩ := Jvm.LawKit.callS X230 hx (y := own_m2) hown (mvT hZ (hw _ (own_w 48 rfl))) (mvT hZ (hw _ (own_w 49 rfl))) (mvT hZ (hw _ (own_w 50 rfl))) (mvT hZ (hw _ (own_w 51 rfl))) (by decide) (backOf (W := 0) (rm10 l Z a0 hw [] y0 T230.heap n0 zs238 ) hZ (hw _ (own_w 51 rfl)) (hw _ (own_w 50 rfl)) (by decide) (by decide)) (g := (mkF m 99 #[.val (.int p1), .val (.int p2), .val (.int p3), .val (.int p4), .val (.int p5), .val (.int 4), .val (.int y0), .val (.int y1), .val (.int y2), .val (.int y3), .val (.ref b204), .val (.ref b220), .val (.int 0)] [(.int y0)])) rfl (by rw [hml]; rfl) (argsL := [(.int y0)]) (rest := []) (lenOf pd_16 rfl) rfl (by show 2 * 0 + _ ≤ _; exact Nat.le_of_eq rfl) (hb hby at_99) (fun _ _ => ⟨rfl, rfl, (by decide : 4 + 0 ≤ _), (by decide : 20 + 0 ≤ _)⟩)
      dsimp only [Pt.U, Pt.locs, Pt.cells, Pt.slots] at X242 l242 y242 z242 st242 hQ242
      subst l242 y242 z242
      obtain ⟨rfl, Nq242, eq242⟩ := hQ242
      have N242 := Fr.app N230 Nq242
      have pre244 : own_Go p e below S0 (T242.setTop (mkF m 102 #[.val (.int p1), .val (.int p2), .val (.int p3), .val (.int p4), .val (.int p5), .val (.int 4), .val (.int y0), .val (.int y1), .val (.int y2), .val (.int y3), .val (.ref b204), .val (.ref b220), .val (.int 0)] [(.int (own_ctl y0))])) := by
        intro t kt
        refine pre241 t ?_
        refine st242 _ ?_
        show Steps p.tables e below (T242.setTop (mkF m 102 #[.val (.int p1), .val (.int p2), .val (.int p3), .val (.int p4), .val (.int p5), .val (.int 4), .val (.int y0), .val (.int y1), .val (.int y2), .val (.int y3), .val (.ref b204), .val (.ref b220), .val (.int 0)] [(.int (own_ctl y0))])) _
        exact kt
      by_cases hc243 : (own_ctl y0) = (0 : Int32)
      · have pre245 : own_Go p e below S0 (T242.setTop (mkF m 108 #[.val (.int p1), .val (.int p2), .val (.int p3), .val (.int p4), .val (.int p5), .val (.int 4), .val (.int y0), .val (.int y1), .val (.int y2), .val (.int y3), .val (.ref b204), .val (.ref b220), .val (.int 0)] [])) := by
          intro t kt
          refine pre244 t ?_
          refine XS.ifYes X242.here hx rfl (pc0 := 102) (pc' := 108) rfl (hb hby at_102) rfl ((if0 _ _).trans (teq hc243).1) (by decide) (by decide) ?_
          exact kt
        have pre246 : own_Go p e below S0 (T242.setTop (mkF m 108 #[.val (.int p1), .val (.int p2), .val (.int p3), .val (.int p4), .val (.int p5), .val (.int 4), .val (.int y0), .val (.int y1), .val (.int y2), .val (.int y3), .val (.ref b204), .val (.ref b220), .val (.int (own_e (0 : Int32) y0))] [])) := by
          intro t kt
          refine pre245 t ?_
          exact castTop (by rw [own_eA (p := (0 : Int32)) hc243]) kt
        exact ⟨T242, _, (Stand.mono X242 (by decide) (by decide)), N242, eq242, pre246⟩
      · have pre247 : own_Go p e below S0 (T242.setTop (mkF m 108 #[.val (.int p1), .val (.int p2), .val (.int p3), .val (.int p4), .val (.int p5), .val (.int 4), .val (.int y0), .val (.int y1), .val (.int y2), .val (.int y3), .val (.ref b204), .val (.ref b220), .val (.int 1)] [])) := by
          intro t kt
          refine pre244 t ?_
          refine XS.ifNo X242.here hx rfl (hb hby at_102) rfl ((if0 _ _).trans (feq hc243).1) ?_
          refine XS.iconst X242.here hx rfl (hb hby at_105) ?_
          refine XS.istore X242.here hx rfl (hb hby at_106) rfl (l' := #[.val (.int p1), .val (.int p2), .val (.int p3), .val (.int p4), .val (.int p5), .val (.int 4), .val (.int y0), .val (.int y1), .val (.int y2), .val (.int y3), .val (.ref b204), .val (.ref b220), .val (.int 1)]) rfl ?_
          exact kt
        have pre248 : own_Go p e below S0 (T242.setTop (mkF m 108 #[.val (.int p1), .val (.int p2), .val (.int p3), .val (.int p4), .val (.int p5), .val (.int 4), .val (.int y0), .val (.int y1), .val (.int y2), .val (.int y3), .val (.ref b204), .val (.ref b220), .val (.int (own_e (0 : Int32) y0))] [])) := by
          intro t kt
          refine pre247 t ?_
          exact castTop (by rw [own_eB (p := (0 : Int32)) hc243]) kt
        exact ⟨T242, _, (Stand.mono X242 (by decide) (by decide)), N242, eq242, pre248⟩
    obtain ⟨Tj249, lj249, Xj249, Nj249, ej249, prej249⟩ : ∃ (Tj249 : State) (lj249 : List Loc), Stand p l e room_1 s m #[(.int p1), (.int p2), (.int p3), (.int p4), (.int p5)] below meth c Tj249 lj249 4 20 ∧ Fr n0 lj249 ∧ Tj249.heap = T230.heap ∧ own_Go p e below S0 (Tj249.setTop (mkF m 125 #[.val (.int p1), .val (.int p2), .val (.int p3), .val (.int p4), .val (.int p5), .val (.int 4), .val (.int y0), .val (.int y1), .val (.int y2), .val (.int y3), .val (.ref b204), .val (.ref b220), .val (.int (own_e (own_e (0 : Int32) y0) y1))] [])) := by
      have pre250 : own_Go p e below S0 (Tj240.setTop (mkF m 116 #[.val (.int p1), .val (.int p2), .val (.int p3), .val (.int p4), .val (.int p5), .val (.int 4), .val (.int y0), .val (.int y1), .val (.int y2), .val (.int y3), .val (.ref b204), .val (.ref b220), .val (.int (own_e (0 : Int32) y0))] [(.int y1)])) := by
        intro t kt
        refine prej240 t ?_
        refine XS.iload Xj240.here hx rfl (hb hby at_108) rfl ?_
        refine XS.iconst Xj240.here hx rfl (hb hby at_110) ?_
        refine XS.icmpNo Xj240.here hx rfl (hb hby at_111) rfl (tlt (by decide : (1 : Int32) < (4 : Int32))).2.2.2 ?_
        refine XS.iload Xj240.here hx rfl (hb hby at_114) rfl ?_
        exact kt
      obtain ⟨_, _, ⟨T251, L251, k251, n251⟩, -, X251, ⟨Lc251, hQ251, l251, y251, z251⟩, st251⟩ := Jvm.LawKit.callS Xj240 hx (y := own_m2) hown (mvT hZ (hw _ (own_w 48 rfl))) (mvT hZ (hw _ (own_w 49 rfl))) (mvT hZ (hw _ (own_w 50 rfl))) (mvT hZ (hw _ (own_w 51 rfl))) (by decide) (backOf (W := 0) (rm10 l Z a0 hw [] y1 T230.heap n0 zs238 ) hZ (hw _ (own_w 51 rfl)) (hw _ (own_w 50 rfl)) (by decide) (by decide)) (g := (mkF m 116 #[.val (.int p1), .val (.int p2), .val (.int p3), .val (.int p4), .val (.int p5), .val (.int 4), .val (.int y0), .val (.int y1), .val (.int y2), .val (.int y3), .val (.ref b204), .val (.ref b220), .val (.int (own_e (0 : Int32) y0))] [(.int y1)])) rfl (by rw [hml]; rfl) (argsL := [(.int y1)]) (rest := []) (lenOf pd_16 rfl) rfl (by show 2 * 0 + _ ≤ _; exact Nat.le_of_eq rfl) (hb hby at_116) (fun _ _ => ⟨rfl, ej240, (by decide : 4 + 0 ≤ _), (by decide : 20 + 0 ≤ _)⟩)
      dsimp only [Pt.U, Pt.locs, Pt.cells, Pt.slots] at X251 l251 y251 z251 st251 hQ251
      subst l251 y251 z251
      obtain ⟨rfl, Nq251, eq251⟩ := hQ251
      have N251 := Fr.app Nj240 Nq251
      have pre253 : own_Go p e below S0 (T251.setTop (mkF m 119 #[.val (.int p1), .val (.int p2), .val (.int p3), .val (.int p4), .val (.int p5), .val (.int 4), .val (.int y0), .val (.int y1), .val (.int y2), .val (.int y3), .val (.ref b204), .val (.ref b220), .val (.int (own_e (0 : Int32) y0))] [(.int (own_ctl y1))])) := by
        intro t kt
        refine pre250 t ?_
        refine st251 _ ?_
        show Steps p.tables e below (T251.setTop (mkF m 119 #[.val (.int p1), .val (.int p2), .val (.int p3), .val (.int p4), .val (.int p5), .val (.int 4), .val (.int y0), .val (.int y1), .val (.int y2), .val (.int y3), .val (.ref b204), .val (.ref b220), .val (.int (own_e (0 : Int32) y0))] [(.int (own_ctl y1))])) _
        exact kt
      by_cases hc252 : (own_ctl y1) = (0 : Int32)
      · have pre254 : own_Go p e below S0 (T251.setTop (mkF m 125 #[.val (.int p1), .val (.int p2), .val (.int p3), .val (.int p4), .val (.int p5), .val (.int 4), .val (.int y0), .val (.int y1), .val (.int y2), .val (.int y3), .val (.ref b204), .val (.ref b220), .val (.int (own_e (0 : Int32) y0))] [])) := by
          intro t kt
          refine pre253 t ?_
          refine XS.ifYes X251.here hx rfl (pc0 := 119) (pc' := 125) rfl (hb hby at_119) rfl ((if0 _ _).trans (teq hc252).1) (by decide) (by decide) ?_
          exact kt
        have pre255 : own_Go p e below S0 (T251.setTop (mkF m 125 #[.val (.int p1), .val (.int p2), .val (.int p3), .val (.int p4), .val (.int p5), .val (.int 4), .val (.int y0), .val (.int y1), .val (.int y2), .val (.int y3), .val (.ref b204), .val (.ref b220), .val (.int (own_e (own_e (0 : Int32) y0) y1))] [])) := by
          intro t kt
          refine pre254 t ?_
          exact castTop (by rw [own_eA (p := (own_e (0 : Int32) y0)) hc252]) kt
        exact ⟨T251, _, (Stand.mono X251 (by decide) (by decide)), N251, eq251, pre255⟩
      · have pre256 : own_Go p e below S0 (T251.setTop (mkF m 125 #[.val (.int p1), .val (.int p2), .val (.int p3), .val (.int p4), .val (.int p5), .val (.int 4), .val (.int y0), .val (.int y1), .val (.int y2), .val (.int y3), .val (.ref b204), .val (.ref b220), .val (.int 1)] [])) := by
          intro t kt
          refine pre253 t ?_
          refine XS.ifNo X251.here hx rfl (hb hby at_119) rfl ((if0 _ _).trans (feq hc252).1) ?_
          refine XS.iconst X251.here hx rfl (hb hby at_122) ?_
          refine XS.istore X251.here hx rfl (hb hby at_123) rfl (l' := #[.val (.int p1), .val (.int p2), .val (.int p3), .val (.int p4), .val (.int p5), .val (.int 4), .val (.int y0), .val (.int y1), .val (.int y2), .val (.int y3), .val (.ref b204), .val (.ref b220), .val (.int 1)]) rfl ?_
          exact kt
        have pre257 : own_Go p e below S0 (T251.setTop (mkF m 125 #[.val (.int p1), .val (.int p2), .val (.int p3), .val (.int p4), .val (.int p5), .val (.int 4), .val (.int y0), .val (.int y1), .val (.int y2), .val (.int y3), .val (.ref b204), .val (.ref b220), .val (.int (own_e (own_e (0 : Int32) y0) y1))] [])) := by
          intro t kt
          refine pre256 t ?_
          exact castTop (by rw [own_eB (p := (own_e (0 : Int32) y0)) hc252]) kt
        exact ⟨T251, _, (Stand.mono X251 (by decide) (by decide)), N251, eq251, pre257⟩
    obtain ⟨Tj258, lj258, Xj258, Nj258, ej258, prej258⟩ : ∃ (Tj258 : State) (lj258 : List Loc), Stand p l e room_1 s m #[(.int p1), (.int p2), (.int p3), (.int p4), (.int p5)] below meth c Tj258 lj258 4 20 ∧ Fr n0 lj258 ∧ Tj258.heap = T230.heap ∧ own_Go p e below S0 (Tj258.setTop (mkF m 142 #[.val (.int p1), .val (.int p2), .val (.int p3), .val (.int p4), .val (.int p5), .val (.int 4), .val (.int y0), .val (.int y1), .val (.int y2), .val (.int y3), .val (.ref b204), .val (.ref b220), .val (.int (own_e (own_e (own_e (0 : Int32) y0) y1) y2))] [])) := by
      have pre259 : own_Go p e below S0 (Tj249.setTop (mkF m 133 #[.val (.int p1), .val (.int p2), .val (.int p3), .val (.int p4), .val (.int p5), .val (.int 4), .val (.int y0), .val (.int y1), .val (.int y2), .val (.int y3), .val (.ref b204), .val (.ref b220), .val (.int (own_e (own_e (0 : Int32) y0) y1))] [(.int y2)])) := by
        intro t kt
        refine prej249 t ?_
        refine XS.iload Xj249.here hx rfl (hb hby at_125) rfl ?_
        refine XS.iconst Xj249.here hx rfl (hb hby at_127) ?_
        refine XS.icmpNo Xj249.here hx rfl (hb hby at_128) rfl (tlt (by decide : (2 : Int32) < (4 : Int32))).2.2.2 ?_
        refine XS.iload Xj249.here hx rfl (hb hby at_131) rfl ?_
        exact kt
      obtain ⟨_, _, ⟨T260, L260, k260, n260⟩, -, X260, ⟨Lc260, hQ260, l260, y260, z260⟩, st260⟩ := Jvm.LawKit.callS Xj249 hx (y := own_m2) hown (mvT hZ (hw _ (own_w 48 rfl))) (mvT hZ (hw _ (own_w 49 rfl))) (mvT hZ (hw _ (own_w 50 rfl))) (mvT hZ (hw _ (own_w 51 rfl))) (by decide) (backOf (W := 0) (rm10 l Z a0 hw [] y2 T230.heap n0 zs238 ) hZ (hw _ (own_w 51 rfl)) (hw _ (own_w 50 rfl)) (by decide) (by decide)) (g := (mkF m 133 #[.val (.int p1), .val (.int p2), .val (.int p3), .val (.int p4), .val (.int p5), .val (.int 4), .val (.int y0), .val (.int y1), .val (.int y2), .val (.int y3), .val (.ref b204), .val (.ref b220), .val (.int (own_e (own_e (0 : Int32) y0) y1))] [(.int y2)])) rfl (by rw [hml]; rfl) (argsL := [(.int y2)]) (rest := []) (lenOf pd_16 rfl) rfl (by show 2 * 0 + _ ≤ _; exact Nat.le_of_eq rfl) (hb hby at_133) (fun _ _ => ⟨rfl, ej249, (by decide : 4 + 0 ≤ _), (by decide : 20 + 0 ≤ _)⟩)
      dsimp only [Pt.U, Pt.locs, Pt.cells, Pt.slots] at X260 l260 y260 z260 st260 hQ260
      subst l260 y260 z260
      obtain ⟨rfl, Nq260, eq260⟩ := hQ260
      have N260 := Fr.app Nj249 Nq260
      have pre262 : own_Go p e below S0 (T260.setTop (mkF m 136 #[.val (.int p1), .val (.int p2), .val (.int p3), .val (.int p4), .val (.int p5), .val (.int 4), .val (.int y0), .val (.int y1), .val (.int y2), .val (.int y3), .val (.ref b204), .val (.ref b220), .val (.int (own_e (own_e (0 : Int32) y0) y1))] [(.int (own_ctl y2))])) := by
        intro t kt
        refine pre259 t ?_
        refine st260 _ ?_
        show Steps p.tables e below (T260.setTop (mkF m 136 #[.val (.int p1), .val (.int p2), .val (.int p3), .val (.int p4), .val (.int p5), .val (.int 4), .val (.int y0), .val (.int y1), .val (.int y2), .val (.int y3), .val (.ref b204), .val (.ref b220), .val (.int (own_e (own_e (0 : Int32) y0) y1))] [(.int (own_ctl y2))])) _
        exact kt
      by_cases hc261 : (own_ctl y2) = (0 : Int32)
      · have pre263 : own_Go p e below S0 (T260.setTop (mkF m 142 #[.val (.int p1), .val (.int p2), .val (.int p3), .val (.int p4), .val (.int p5), .val (.int 4), .val (.int y0), .val (.int y1), .val (.int y2), .val (.int y3), .val (.ref b204), .val (.ref b220), .val (.int (own_e (own_e (0 : Int32) y0) y1))] [])) := by
          intro t kt
          refine pre262 t ?_
          refine XS.ifYes X260.here hx rfl (pc0 := 136) (pc' := 142) rfl (hb hby at_136) rfl ((if0 _ _).trans (teq hc261).1) (by decide) (by decide) ?_
          exact kt
        have pre264 : own_Go p e below S0 (T260.setTop (mkF m 142 #[.val (.int p1), .val (.int p2), .val (.int p3), .val (.int p4), .val (.int p5), .val (.int 4), .val (.int y0), .val (.int y1), .val (.int y2), .val (.int y3), .val (.ref b204), .val (.ref b220), .val (.int (own_e (own_e (own_e (0 : Int32) y0) y1) y2))] [])) := by
          intro t kt
          refine pre263 t ?_
          exact castTop (by rw [own_eA (p := (own_e (own_e (0 : Int32) y0) y1)) hc261]) kt
        exact ⟨T260, _, (Stand.mono X260 (by decide) (by decide)), N260, eq260, pre264⟩
      · have pre265 : own_Go p e below S0 (T260.setTop (mkF m 142 #[.val (.int p1), .val (.int p2), .val (.int p3), .val (.int p4), .val (.int p5), .val (.int 4), .val (.int y0), .val (.int y1), .val (.int y2), .val (.int y3), .val (.ref b204), .val (.ref b220), .val (.int 1)] [])) := by
          intro t kt
          refine pre262 t ?_
          refine XS.ifNo X260.here hx rfl (hb hby at_136) rfl ((if0 _ _).trans (feq hc261).1) ?_
          refine XS.iconst X260.here hx rfl (hb hby at_139) ?_
          refine XS.istore X260.here hx rfl (hb hby at_140) rfl (l' := #[.val (.int p1), .val (.int p2), .val (.int p3), .val (.int p4), .val (.int p5), .val (.int 4), .val (.int y0), .val (.int y1), .val (.int y2), .val (.int y3), .val (.ref b204), .val (.ref b220), .val (.int 1)]) rfl ?_
          exact kt
        have pre266 : own_Go p e below S0 (T260.setTop (mkF m 142 #[.val (.int p1), .val (.int p2), .val (.int p3), .val (.int p4), .val (.int p5), .val (.int 4), .val (.int y0), .val (.int y1), .val (.int y2), .val (.int y3), .val (.ref b204), .val (.ref b220), .val (.int (own_e (own_e (own_e (0 : Int32) y0) y1) y2))] [])) := by
          intro t kt
          refine pre265 t ?_
          exact castTop (by rw [own_eB (p := (own_e (own_e (0 : Int32) y0) y1)) hc261]) kt
        exact ⟨T260, _, (Stand.mono X260 (by decide) (by decide)), N260, eq260, pre266⟩
    obtain ⟨Tj267, lj267, Xj267, Nj267, ej267, prej267⟩ : ∃ (Tj267 : State) (lj267 : List Loc), Stand p l e room_1 s m #[(.int p1), (.int p2), (.int p3), (.int p4), (.int p5)] below meth c Tj267 lj267 4 20 ∧ Fr n0 lj267 ∧ Tj267.heap = T230.heap ∧ own_Go p e below S0 (Tj267.setTop (mkF m 159 #[.val (.int p1), .val (.int p2), .val (.int p3), .val (.int p4), .val (.int p5), .val (.int 4), .val (.int y0), .val (.int y1), .val (.int y2), .val (.int y3), .val (.ref b204), .val (.ref b220), .val (.int (own_e (own_e (own_e (own_e (0 : Int32) y0) y1) y2) y3))] [])) := by
      have pre268 : own_Go p e below S0 (Tj258.setTop (mkF m 150 #[.val (.int p1), .val (.int p2), .val (.int p3), .val (.int p4), .val (.int p5), .val (.int 4), .val (.int y0), .val (.int y1), .val (.int y2), .val (.int y3), .val (.ref b204), .val (.ref b220), .val (.int (own_e (own_e (own_e (0 : Int32) y0) y1) y2))] [(.int y3)])) := by
        intro t kt
        refine prej258 t ?_
        refine XS.iload Xj258.here hx rfl (hb hby at_142) rfl ?_
        refine XS.iconst Xj258.here hx rfl (hb hby at_144) ?_
        refine XS.icmpNo Xj258.here hx rfl (hb hby at_145) rfl (tlt (by decide : (3 : Int32) < (4 : Int32))).2.2.2 ?_
        refine XS.iload Xj258.here hx rfl (hb hby at_148) rfl ?_
        exact kt
      obtain ⟨_, _, ⟨T269, L269, k269, n269⟩, -, X269, ⟨Lc269, hQ269, l269, y269, z269⟩, st269⟩ := Jvm.LawKit.callS Xj258 hx (y := own_m2) hown (mvT hZ (hw _ (own_w 48 rfl))) (mvT hZ (hw _ (own_w 49 rfl))) (mvT hZ (hw _ (own_w 50 rfl))) (mvT hZ (hw _ (own_w 51 rfl))) (by decide) (backOf (W := 0) (rm10 l Z a0 hw [] y3 T230.heap n0 zs238 ) hZ (hw _ (own_w 51 rfl)) (hw _ (own_w 50 rfl)) (by decide) (by decide)) (g := (mkF m 150 #[.val (.int p1), .val (.int p2), .val (.int p3), .val (.int p4), .val (.int p5), .val (.int 4), .val (.int y0), .val (.int y1), .val (.int y2), .val (.int y3), .val (.ref b204), .val (.ref b220), .val (.int (own_e (own_e (own_e (0 : Int32) y0) y1) y2))] [(.int y3)])) rfl (by rw [hml]; rfl) (argsL := [(.int y3)]) (rest := []) (lenOf pd_16 rfl) rfl (by show 2 * 0 + _ ≤ _; exact Nat.le_of_eq rfl) (hb hby at_150) (fun _ _ => ⟨rfl, ej258, (by decide : 4 + 0 ≤ _), (by decide : 20 + 0 ≤ _)⟩)
      dsimp only [Pt.U, Pt.locs, Pt.cells, Pt.slots] at X269 l269 y269 z269 st269 hQ269
      subst l269 y269 z269
      obtain ⟨rfl, Nq269, eq269⟩ := hQ269
      have N269 := Fr.app Nj258 Nq269
      have pre271 : own_Go p e below S0 (T269.setTop (mkF m 153 #[.val (.int p1), .val (.int p2), .val (.int p3), .val (.int p4), .val (.int p5), .val (.int 4), .val (.int y0), .val (.int y1), .val (.int y2), .val (.int y3), .val (.ref b204), .val (.ref b220), .val (.int (own_e (own_e (own_e (0 : Int32) y0) y1) y2))] [(.int (own_ctl y3))])) := by
        intro t kt
        refine pre268 t ?_
        refine st269 _ ?_
        show Steps p.tables e below (T269.setTop (mkF m 153 #[.val (.int p1), .val (.int p2), .val (.int p3), .val (.int p4), .val (.int p5), .val (.int 4), .val (.int y0), .val (.int y1), .val (.int y2), .val (.int y3), .val (.ref b204), .val (.ref b220), .val (.int (own_e (own_e (own_e (0 : Int32) y0) y1) y2))] [(.int (own_ctl y3))])) _
        exact kt
      by_cases hc270 : (own_ctl y3) = (0 : Int32)
      · have pre272 : own_Go p e below S0 (T269.setTop (mkF m 159 #[.val (.int p1), .val (.int p2), .val (.int p3), .val (.int p4), .val (.int p5), .val (.int 4), .val (.int y0), .val (.int y1), .val (.int y2), .val (.int y3), .val (.ref b204), .val (.ref b220), .val (.int (own_e (own_e (own_e (0 : Int32) y0) y1) y2))] [])) := by
          intro t kt
          refine pre271 t ?_
          refine XS.ifYes X269.here hx rfl (pc0 := 153) (pc' := 159) rfl (hb hby at_153) rfl ((if0 _ _).trans (teq hc270).1) (by decide) (by decide) ?_
          exact kt
        have pre273 : own_Go p e below S0 (T269.setTop (mkF m 159 #[.val (.int p1), .val (.int p2), .val (.int p3), .val (.int p4), .val (.int p5), .val (.int 4), .val (.int y0), .val (.int y1), .val (.int y2), .val (.int y3), .val (.ref b204), .val (.ref b220), .val (.int (own_e (own_e (own_e (own_e (0 : Int32) y0) y1) y2) y3))] [])) := by
          intro t kt
          refine pre272 t ?_
          exact castTop (by rw [own_eA (p := (own_e (own_e (own_e (0 : Int32) y0) y1) y2)) hc270]) kt
        exact ⟨T269, _, (Stand.mono X269 (by decide) (by decide)), N269, eq269, pre273⟩
      · have pre274 : own_Go p e below S0 (T269.setTop (mkF m 159 #[.val (.int p1), .val (.int p2), .val (.int p3), .val (.int p4), .val (.int p5), .val (.int 4), .val (.int y0), .val (.int y1), .val (.int y2), .val (.int y3), .val (.ref b204), .val (.ref b220), .val (.int 1)] [])) := by
          intro t kt
          refine pre271 t ?_
          refine XS.ifNo X269.here hx rfl (hb hby at_153) rfl ((if0 _ _).trans (feq hc270).1) ?_
          refine XS.iconst X269.here hx rfl (hb hby at_156) ?_
          refine XS.istore X269.here hx rfl (hb hby at_157) rfl (l' := #[.val (.int p1), .val (.int p2), .val (.int p3), .val (.int p4), .val (.int p5), .val (.int 4), .val (.int y0), .val (.int y1), .val (.int y2), .val (.int y3), .val (.ref b204), .val (.ref b220), .val (.int 1)]) rfl ?_
          exact kt
        have pre275 : own_Go p e below S0 (T269.setTop (mkF m 159 #[.val (.int p1), .val (.int p2), .val (.int p3), .val (.int p4), .val (.int p5), .val (.int 4), .val (.int y0), .val (.int y1), .val (.int y2), .val (.int y3), .val (.ref b204), .val (.ref b220), .val (.int (own_e (own_e (own_e (own_e (0 : Int32) y0) y1) y2) y3))] [])) := by
          intro t kt
          refine pre274 t ?_
          exact castTop (by rw [own_eB (p := (own_e (own_e (own_e (0 : Int32) y0) y1) y2)) hc270]) kt
        exact ⟨T269, _, (Stand.mono X269 (by decide) (by decide)), N269, eq269, pre275⟩
    have pre276 : own_Go p e below S0 (Tj267.setTop (mkF m 161 #[.val (.int p1), .val (.int p2), .val (.int p3), .val (.int p4), .val (.int p5), .val (.int 4), .val (.int y0), .val (.int y1), .val (.int y2), .val (.int y3), .val (.ref b204), .val (.ref b220), .val (.int (own_e (own_e (own_e (own_e (0 : Int32) y0) y1) y2) y3))] [(.ref b220)])) := by
      intro t kt
      refine prej267 t ?_
      refine XS.aload Xj267.here hx rfl (hb hby at_159) rfl rfl ?_
      exact kt
    have f277 : Old Z n0 T230.heap := (f228.keep K230 (allS ge222 all0))
    obtain ⟨_, _, ⟨T278, L278, k278, n278⟩, -, X278, ⟨Lc278, hQ278, l278, y278, z278⟩, st278⟩ := Jvm.LawKit.callS Xj267 hx (y := own_m0) hown (mvT hZ (hw _ (own_w 23 rfl))) (mvT hZ (hw _ (own_w 24 rfl))) (mvT hZ (hw _ (own_w 25 rfl))) (mvT hZ (hw _ (own_w 26 rfl))) (by decide) (backOf (W := 0) (rmany4 l Z a0 hw [] b220 wC wF vb231 kb232 (nar .char y0) (nar .char y1) (nar .char y2) (nar .char y3) T230.heap n0 zs238 f277 qC qU qF g234) hZ (hw _ (own_w 26 rfl)) (hw _ (own_w 25 rfl)) (by decide) (by decide)) (g := (mkF m 161 #[.val (.int p1), .val (.int p2), .val (.int p3), .val (.int p4), .val (.int p5), .val (.int 4), .val (.int y0), .val (.int y1), .val (.int y2), .val (.int y3), .val (.ref b204), .val (.ref b220), .val (.int (own_e (own_e (own_e (own_e (0 : Int32) y0) y1) y2) y3))] [(.ref b220)])) rfl (by rw [hml]; rfl) (argsL := [(.ref b220)]) (rest := []) (lenOf pd_18 rfl) rfl (by show 2 * 0 + _ ≤ _; exact Nat.le_of_eq rfl) (hb hby at_161) (fun _ _ => ⟨rfl, ej267, (by decide : 4 + 0 ≤ _), (by decide : 20 + 0 ≤ _)⟩)
    dsimp only [Pt.U, Pt.locs, Pt.cells, Pt.slots] at X278 l278 y278 z278 st278 hQ278
    subst l278 y278 z278
    obtain ⟨rfl, Nq278, eq278⟩ := hQ278
    have N278 := Fr.app Nj267 Nq278
    have pre279 : own_Go p e below S0 (T278.setTop (mkF m 174 #[.val (.int p1), .val (.int p2), .val (.int p3), .val (.int p4), .val (.int p5), .val (.int 4), .val (.int y0), .val (.int y1), .val (.int y2), .val (.int y3), .val (.ref b204), .val (.ref b220), .val (.int (own_e (own_e (own_e (own_e (0 : Int32) y0) y1) y2) y3))] [(.int 1)])) := by
      intro t kt
      refine pre276 t ?_
      refine st278 _ ?_
      show Steps p.tables e below (T278.setTop (mkF m 164 #[.val (.int p1), .val (.int p2), .val (.int p3), .val (.int p4), .val (.int p5), .val (.int 4), .val (.int y0), .val (.int y1), .val (.int y2), .val (.int y3), .val (.ref b204), .val (.ref b220), .val (.int (own_e (own_e (own_e (own_e (0 : Int32) y0) y1) y2) y3))] [(.int (own_any4 (nar .char y0) (nar .char y1) (nar .char y2) (nar .char y3)))])) _
      refine XS.iload X278.here hx rfl (hb hby at_164) rfl ?_
      refine XS.icmpNo X278.here hx rfl (hb hby at_166) rfl (teq ((own_anyE4 _ _ _ _).trans (by rw [pj3, pj4, pj5, pj6]))).2 ?_
      refine XS.iconst X278.here hx rfl (hb hby at_169) ?_
      refine XS.goto X278.here hx rfl (pc0 := 170) (pc' := 174) rfl (hb hby at_170) (by decide) (by decide) ?_
      exact kt
    obtain ⟨fs, hr, hrun, hended, hW, hsame⟩ := X278.leave (v := some (.int 1)) (fun h => by rw [Bd.returns] at h; cases h)
    refine ⟨_, _, fin _ (pre279 _ ?_), hrun, hended, _, _, rfl, ?_, own_wideMono (ReturnedEndW.of_narrow ⟨_, rfl⟩ hW hsame) (by decide) (by decide)⟩
    · exact retN X278 hx (t := .boolean) Bd.returns (by simp) (hb hby at_174) hr
    · show Q0 Z p1 p2 p3 p4 p5 wC wF h0 n0 _ T278.heap _
      rw [eq278]
      exact ⟨rfl, N278⟩

set_option maxRecDepth 65536 in
set_option maxHeartbeats 40000000 in
theorem comes_1 {Post : Tables → Env → Array Value → State → Outcome → State → Prop} (hpost : ∀ tb e args s v u, (limb_1_1.after args s (.returned v) u = true ∧ limb_1_2.after args s (.returned v) u = true ∧ True) → ReturnedEndW s (.returned v) u (Jvm.fieldLocs frame_1_writes args s ++ Jvm.arrayLocs frame_1_arrays args s ++ Jvm.staticLocs frame_1_statics s) 24 1152 → Post tb e args s (.returned v) u) :
    ArmFor flags0 classFile x code maxLocals ret World_1 tables_1 room_1 Calls_1 rest_1 Pre_1 Post := by
  intro l hfl _ _ p e ha hc hk s m args below hf hA hF happ hP
  obtain ⟨hcalls, hrest, hpre⟩ := hP
  obtain ⟨-, -, -, hnamed, -, -, -, hat⟩ := (Spec.applies_iff hf).mp happ
  obtain ⟨hg, hn⟩ := and_e (Cond.before_iff.mp (show (Jvm.Cond.and given_1 narrow_1).before args s = true from hpre))
  obtain ⟨hcount, hg0⟩ := and_e hg
  obtain ⟨ga0, hg1⟩ := and_e hg0
  obtain ⟨ga1, hg2⟩ := and_e hg1
  obtain ⟨ga2, hg3⟩ := and_e hg2
  obtain ⟨ga3, hg4⟩ := and_e hg3
  have ga4 := hg4
  obtain ⟨w0, w1, w2, w3, w4, rfl⟩ : ∃ w0 w1 w2 w3 w4 : Value, args = #[w0, w1, w2, w3, w4] := by
    have hs : args.size = 5 := by simpa [Cond.value, given_1] using hcount
    obtain ⟨L⟩ := args
    match L, hs with
    | [w0, w1, w2, w3, w4], _ => exact ⟨w0, w1, w2, w3, w4, rfl⟩
  have hw := fun d (hd : d ∈ tables_1) => atoms_spec (ws := Jvm.Cond.code x code maxLocals ret :: tables_1) hat d (List.mem_cons_of_mem _ hd)
  have hfit : Fit s := fun {y c} hc i hi => by
    obtain ⟨ha, rfl⟩ := Array.getElem?_eq_some_iff.mp hc
    have q := List.all_eq_true.mp ((Array.all_eq_true_iff_forall_mem.mp hF) _ (Array.getElem_mem ha)) i (List.mem_range.mpr hi)
    simpa [Array.getElem?_eq_getElem hi] using q
  obtain ⟨hsets, hown0⟩ := atoms_of _ (rest_1_c_eq ▸ (show rest_1_c.before _ s = true from hrest))
  obtain ⟨i0, ei0⟩ := is_v ga0
  obtain rfl : w0 = (.int i0) := Option.some.inj ei0
  obtain ⟨i1, ei1⟩ := is_v ga1
  obtain rfl : w1 = (.int i1) := Option.some.inj ei1
  obtain ⟨i2, ei2⟩ := is_v ga2
  obtain rfl : w2 = (.int i2) := Option.some.inj ei2
  obtain ⟨i3, ei3⟩ := is_v ga3
  obtain rfl : w3 = (.int i3) := Option.some.inj ei3
  obtain ⟨i4, ei4⟩ := is_v ga4
  obtain rfl : w4 = (.int i4) := Option.some.inj ei4
  obtain ⟨wC, evC⟩ := is_v (Cond.before_iff.mp (hsets _ (List.mem_of_getElem? (i := 1) rfl)))
  have SC := Sta.start evC (Or.inl (hsets _ (List.mem_of_getElem? (i := 0) rfl)))
  have hC : ¬ wC = (0 : Int32) := fun q => by
    have z := not_v (Cond.before_iff.mp (hsets _ (List.mem_of_getElem? (i := 2) rfl)))
    exact absurd ((eq_i evC (Term.int_eval 0) (by rw [q])).symm.trans z) (by decide)
  have SA := Sta.start (own_eqI (Cond.before_iff.mp (hsets _ (List.mem_of_getElem? (i := 12) rfl)))) (Or.inl (hsets _ (List.mem_of_getElem? (i := 11) rfl)))
  have SH := Sta.start (own_eqI (Cond.before_iff.mp (hsets _ (List.mem_of_getElem? (i := 15) rfl)))) (Or.inl (hsets _ (List.mem_of_getElem? (i := 14) rfl)))
  have SL := Sta.start (own_eqI (Cond.before_iff.mp (hsets _ (List.mem_of_getElem? (i := 18) rfl)))) (Or.inl (hsets _ (List.mem_of_getElem? (i := 17) rfl)))
  obtain ⟨wF, evF, hF⟩ := isR_v (Cond.before_iff.mp (hsets _ (List.mem_of_getElem? (i := 8) rfl)))
  have SF := Sta.start evF (Or.inl (hsets _ (List.mem_of_getElem? (i := 7) rfl)))
  have hCH0 : CHv s own_EL s.vm s.heap := CHv.start (own_EW _ s hw) (fun q hq => hcalls.1 q (own_ELsub q hq)) (hsets _ (List.mem_of_getElem? (i := 2) rfl)) (hw _ (own_w 16 rfl)) (hw _ (own_w 3 rfl))
  obtain ⟨n, o, h1, h2, h3, _, L, rfl, ⟨rfl, N⟩, hq⟩ := rm0 l s _ hw tables_1 i0 i1 i2 i3 i4 wC wF s.heap s.heap.size (Nat.le_refl _) (Old.start s) ⟨SC, hC⟩ ⟨SA, SH, SL⟩ ⟨SF, hF⟩ p e ha hc hk s m _ below hf ((Spec.applies_iff_loose hf).mp happ).1 ⟨rfl, State.Warmed39.refl s, rfl, hCH0, all0⟩ trivial
  refine ⟨n, _, h1, h2, h3, hpost _ _ _ _ _ _ ⟨Cond.after_iff.mpr rfl, Cond.after_iff.mpr (eq_i res_at (Term.int_eval (1)) rfl), trivial⟩ ⟨hq.1, hq.2.1, hq.2.2.1, (hq.2.2.2.sift fun y hy => Or.inr (N y hy)).mono (by decide) (by decide)⟩⟩
theorem main_1_1 : Claimed_1_1 := comes_1 fun _ _ _ _ _ _ h hF => ⟨h.1, hF⟩
theorem main_1_2 : Claimed_1_2 := comes_1 fun _ _ _ _ _ _ h hF => ⟨h.2.1, hF⟩

end Jvm.Pilot.@@N@@
namespace Jvm.Pilot.@@N@@
open Jvm Jvm.ClassFile Sem Op Lib Jvm.Free Jvm.Stand Jvm.Pilot.@@N@@.Jvm.D
/-! MADE BY PROGRAM (witnessworld.py) out of the Statement's table words and the real class files: 20 classes; the members and pool entries that the words name. The judged class is class 1, her method 2. -/
namespace start1
open Jvm.ClassFile
def u (s : String) : CpInfo := .utf8 (stringToUtf16 s)
/-- a pool by its gaps: so many unusable entries, then the entry; so many at the end -/
def gap : Nat → List CpInfo → List CpInfo
  | 0, r => r
  | n + 1, r => .unusable :: gap n r
def poolList (es : List (Nat × CpInfo)) (last : Nat) : List CpInfo := es.foldr (fun e r => gap e.1 (e.2 :: r)) (gap last [])
def pool (es : List (Nat × CpInfo)) (last : Nat) : Array CpInfo := ⟨poolList es last⟩
def fileOf (pool : Array CpInfo) (this : Nat) (attrs : Array Attribute := #[]) (ms : Array MethodInfo := #[]) (fl : Nat := 33) (sup : Nat := 0) (ifs : Array Nat := #[]) (fds : Array FieldInfo := #[]) : ClassFile where
  minorVersion := 0
  majorVersion := 65
  constantPool := pool
  accessFlags := fl
  thisClass := this
  superClass := sup
  interfaces := ifs
  fields := fds
  methods := ms
  attributes := attrs
def plain (name : String) (sup : Option ClassId) : Class where
  name := name
  kind := .ordinary
  loader := none
  accessFlags := 33
  super := sup
  interfaces := #[]
  cf := none
  fields := #[]
  methods := #[]
  instanceTypes := #[]
  staticTypes := #[]
  resolved := #[]
  callSites := []
  init := .initialized
  statics := none
  mirror := none

def pool0 : Array CpInfo := pool [(5, u "<init>"), (0, u "()V"), (1, .class_ 10), (1, u "java/lang/Object")] 113

def k0c0 : Code := { maxStack := 0, maxLocals := 1, code := object_method_1_code, exceptionTable := #[], attributes := #[] }
def k0m0 : Method := { name := "<init>", desc := "()V", sig := { parameters := [], returnType := none }, accessFlags := 1, code := some k0c0 }
/-- java/lang/Object -/
def k0 : Class := { plain "java/lang/Object" none with
  accessFlags := 33
  interfaces := #[]
  cf := some (fileOf pool0 8 #[] #[{ accessFlags := 1, nameIndex := 5, descriptorIndex := 6, attributes := #[] }] 33 0 #[] #[])
  fields := #[]
  methods := #[k0m0]
  instanceTypes := #[]
  staticTypes := #[]
  resolved := Array.replicate 124 none
  statics := none }

def pool1 : Array CpInfo := pool [(2, .class_ 4), (1, u "java/lang/Object"), (0, u "<init>"), (0, u "()V"), (0, .integer 2147483647), (0, .class_ 9), (0, u "java/lang/String"), (0, .methodref 8 11), (0, .nameAndType 5 12), (0, u "([C)V"), (0, .methodref 14 15), (0, .class_ 16), (0, .nameAndType 17 18), (0, u "com/example/permgrid/permgrid/ControlCharactersAnyInPinLaw"), (0, u "ctl"), (0, u "(C)Z"), (0, .methodref 20 21), (0, .class_ 22), (0, .nameAndType 23 24), (0, u "com/example/permgrid/permgrid/ControlCharacters"), (0, u "anyIn"), (0, u "(Ljava/lang/String;)Z"), (3, u "law"), (0, u "(IIIII)Z")] 4

def k1m0 : Method := { name := "<init>", desc := "()V", sig := { parameters := [], returnType := none }, accessFlags := 2, code := none }
def k1c1 : Code := { maxStack := 2, maxLocals := 2, code := method_2_code, exceptionTable := #[], attributes := #[] }
def k1m1 : Method := { name := "ctl", desc := "(C)Z", sig := { parameters := [.char], returnType := some .boolean }, accessFlags := 10, code := some k1c1 }
def k1c2 : Code := { maxStack := 3, maxLocals := 13, code := code, exceptionTable := #[], attributes := #[] }
def k1m2 : Method := { name := "law", desc := "(IIIII)Z", sig := { parameters := [.int, .int, .int, .int, .int], returnType := some .boolean }, accessFlags := 9, code := some k1c2 }
/-- com/example/permgrid/permgrid/ControlCharactersAnyInPinLaw -/
def k1 : Class := { plain "com/example/permgrid/permgrid/ControlCharactersAnyInPinLaw" (some 0) with
  accessFlags := 49
  interfaces := #[]
  cf := some (fileOf pool1 14 #[] #[{ accessFlags := 2, nameIndex := 5, descriptorIndex := 6, attributes := #[] }, { accessFlags := 10, nameIndex := 17, descriptorIndex := 18, attributes := #[] }, { accessFlags := 9, nameIndex := 28, descriptorIndex := 29, attributes := #[] }] 49 2 #[] #[])
  fields := #[]
  methods := #[k1m0, k1m1, k1m2]
  instanceTypes := #[]
  staticTypes := #[]
  resolved := Array.replicate 34 none
  statics := none }

def pool2 : Array CpInfo := pool [(1, .class_ 2), (0, u "java/io/Serializable"), (0, .class_ 4), (0, u "java/lang/Object")] 2

/-- java/io/Serializable -/
def k2 : Class := { plain "java/io/Serializable" (some 0) with
  accessFlags := 1537
  interfaces := #[]
  cf := some (fileOf pool2 1 #[] #[] 1537 3 #[] #[])
  fields := #[]
  methods := #[]
  instanceTypes := #[]
  staticTypes := #[]
  resolved := Array.replicate 7 none
  statics := none }

def pool3 : Array CpInfo := pool [(1, .class_ 2), (0, u "java/lang/Comparable"), (0, .class_ 4), (0, u "java/lang/Object")] 7

/-- java/lang/Comparable -/
def k3 : Class := { plain "java/lang/Comparable" (some 0) with
  accessFlags := 1537
  interfaces := #[]
  cf := some (fileOf pool3 1 #[] #[] 1537 3 #[] #[])
  fields := #[]
  methods := #[]
  instanceTypes := #[]
  staticTypes := #[]
  resolved := Array.replicate 12 none
  statics := none }

def pool4 : Array CpInfo := pool [(2, .class_ 4), (1, u "java/lang/CharSequence"), (42, .class_ 48), (0, u "java/lang/CharSequence$1CodePointIterator"), (10, .class_ 60), (0, u "java/lang/CharSequence$1CharIterator"), (5, .class_ 67), (0, u "java/lang/Object")] 63

/-- java/lang/CharSequence -/
def k4 : Class := { plain "java/lang/CharSequence" (some 0) with
  accessFlags := 1537
  interfaces := #[]
  cf := some (fileOf pool4 2 #[.nestMembers #[47, 59]] #[] 1537 66 #[] #[])
  fields := #[]
  methods := #[]
  instanceTypes := #[]
  staticTypes := #[]
  resolved := Array.replicate 131 none
  statics := none }

def pool5 : Array CpInfo := pool [(1, .class_ 2), (0, u "java/lang/constant/Constable"), (0, .class_ 4), (0, u "java/lang/Object")] 6

/-- java/lang/constant/Constable -/
def k5 : Class := { plain "java/lang/constant/Constable" (some 0) with
  accessFlags := 1537
  interfaces := #[]
  cf := some (fileOf pool5 1 #[] #[] 1537 3 #[] #[])
  fields := #[]
  methods := #[]
  instanceTypes := #[]
  staticTypes := #[]
  resolved := Array.replicate 11 none
  statics := none }

def pool6 : Array CpInfo := pool [(1, .class_ 2), (0, u "java/lang/constant/ConstantDesc"), (0, .class_ 4), (0, u "java/lang/Object")] 32

/-- java/lang/constant/ConstantDesc -/
def k6 : Class := { plain "java/lang/constant/ConstantDesc" (some 0) with
  accessFlags := 1537
  interfaces := #[]
  cf := some (fileOf pool6 1 #[] #[] 1537 3 #[] #[])
  fields := #[]
  methods := #[]
  instanceTypes := #[]
  staticTypes := #[]
  resolved := Array.replicate 37 none
  statics := none }

def pool7 : Array CpInfo := pool [(1, .methodref 2 3), (0, .class_ 4), (0, .nameAndType 5 6), (0, u "java/lang/Object"), (0, u "<init>"), (0, u "()V"), (0, .string 8), (0, u ""), (0, .fieldref 10 11), (0, .class_ 12), (0, .nameAndType 13 14), (0, u "java/lang/String"), (0, u "value"), (0, u "[B"), (0, .fieldref 10 16), (0, .nameAndType 17 18), (0, u "coder"), (0, u "B"), (2, u "hash"), (0, u "I"), (2, u "hashIsZero"), (0, u "Z"), (0, .methodref 10 28), (0, .nameAndType 5 29), (0, u "([CIILjava/lang/Void;)V"), (8, .fieldref 10 39), (0, .nameAndType 40 26), (0, u "COMPACT_STRINGS"), (1, .class_ 44), (1, u "java/lang/StringUTF16"), (0, u "compress"), (1, .methodref 42 48), (0, .nameAndType 49 50), (0, u "coderFromArrayLen"), (0, u "([BI)B"), (56, .class_ 109), (1, u "java/lang/StringLatin1"), (32, u "()Z"), (34, .methodref 42 178), (0, .nameAndType 45 179), (0, u "([CII)[B"), (154, u "()I"), (0, .methodref 10 336), (0, .nameAndType 17 337), (0, u "()B"), (25, u "([BI)C"), (27, u "(II)V"), (35, u "(I)C"), (64, .methodref 10 493), (0, .nameAndType 494 142), (0, u "isLatin1"), (0, .methodref 107 496), (0, .nameAndType 497 363), (0, u "charAt"), (0, .methodref 42 496), (2, u "checkIndex"), (5, u "length"), (67, .class_ 576), (0, u "java/lang/CharSequence"), (22, u "CASE_INSENSITIVE_ORDER"), (0, u "Ljava/util/Comparator;"), (409, u "([C)V"), (42, .fieldref 1054 1055), (0, .class_ 1056), (0, .nameAndType 1057 1058), (0, u "jdk/internal/util/Preconditions"), (0, u "SIOOBE_FORMATTER"), (0, u "Ljava/util/function/BiFunction;"), (0, .methodref 1054 1060), (0, .nameAndType 501 1061), (0, u "(IILjava/util/function/BiFunction;)I"), (39, u "serialPersistentFields"), (0, u "[Ljava/io/ObjectStreamField;"), (0, .class_ 1104), (0, u "java/lang/String$CaseInsensitiveComparator"), (1, .class_ 1107), (0, u "java/io/Serializable"), (0, .class_ 1109), (0, u "java/lang/Comparable"), (0, .class_ 1111), (0, u "java/lang/constant/Constable"), (0, .class_ 1113), (0, u "java/lang/constant/ConstantDesc"), (2, u "serialVersionUID"), (0, u "J"), (3, u "REPL"), (0, u "C"), (2, u "LATIN1"), (1, u "UTF16")] 323

def k7m0 : Method := { name := "<init>", desc := "()V", sig := { parameters := [], returnType := none }, accessFlags := 1, code := none }
def k7c1 : Code := { maxStack := 5, maxLocals := 2, code := jdk_42_method_3_code, exceptionTable := #[], attributes := #[] }
def k7m1 : Method := { name := "<init>", desc := "([C)V", sig := { parameters := [(.array .char)], returnType := none }, accessFlags := 1, code := some k7c1 }
def k7c2 : Code := { maxStack := 2, maxLocals := 1, code := jdk_42_method_54_code, exceptionTable := #[], attributes := #[] }
def k7m2 : Method := { name := "length", desc := "()I", sig := { parameters := [], returnType := some .int }, accessFlags := 1, code := some k7c2 }
def k7c3 : Code := { maxStack := 2, maxLocals := 2, code := jdk_42_method_56_code, exceptionTable := #[], attributes := #[] }
def k7m3 : Method := { name := "charAt", desc := "(I)C", sig := { parameters := [.int], returnType := some .char }, accessFlags := 1, code := some k7c3 }
def k7c4 : Code := { maxStack := 4, maxLocals := 6, code := jdk_42_method_149_code, exceptionTable := #[], attributes := #[] }
def k7m4 : Method := { name := "<init>", desc := "([CIILjava/lang/Void;)V", sig := { parameters := [(.array .char), .int, .int, (.object "java/lang/Void")], returnType := none }, accessFlags := 2, code := some k7c4 }
def k7c5 : Code := { maxStack := 1, maxLocals := 1, code := jdk_42_method_152_code, exceptionTable := #[], attributes := #[] }
def k7m5 : Method := { name := "coder", desc := "()B", sig := { parameters := [], returnType := some .byte }, accessFlags := 0, code := some k7c5 }
def k7c6 : Code := { maxStack := 1, maxLocals := 1, code := jdk_42_method_154_code, exceptionTable := #[], attributes := #[] }
def k7m6 : Method := { name := "isLatin1", desc := "()Z", sig := { parameters := [], returnType := some .boolean }, accessFlags := 0, code := some k7c6 }
def k7c7 : Code := { maxStack := 3, maxLocals := 2, code := jdk_42_method_155_code, exceptionTable := #[], attributes := #[] }
def k7m7 : Method := { name := "checkIndex", desc := "(II)V", sig := { parameters := [.int, .int], returnType := none }, accessFlags := 8, code := some k7c7 }
/-- java/lang/String -/
def k7 : Class := { plain "java/lang/String" (some 0) with
  accessFlags := 49
  interfaces := #[2, 3, 4, 5, 6]
  cf := some (fileOf pool7 10 #[.nestMembers #[1103]] #[{ accessFlags := 1, nameIndex := 5, descriptorIndex := 6, attributes := #[] }, { accessFlags := 1, nameIndex := 5, descriptorIndex := 1010, attributes := #[] }, { accessFlags := 1, nameIndex := 507, descriptorIndex := 334, attributes := #[] }, { accessFlags := 1, nameIndex := 497, descriptorIndex := 427, attributes := #[] }, { accessFlags := 2, nameIndex := 5, descriptorIndex := 29, attributes := #[] }, { accessFlags := 0, nameIndex := 17, descriptorIndex := 337, attributes := #[] }, { accessFlags := 0, nameIndex := 494, descriptorIndex := 142, attributes := #[] }, { accessFlags := 8, nameIndex := 501, descriptorIndex := 391, attributes := #[] }] 49 2 #[1106, 1108, 575, 1110, 1112] #[{ accessFlags := 18, nameIndex := 13, descriptorIndex := 14, attributes := #[] }, { accessFlags := 18, nameIndex := 17, descriptorIndex := 18, attributes := #[] }, { accessFlags := 2, nameIndex := 21, descriptorIndex := 22, attributes := #[] }, { accessFlags := 2, nameIndex := 25, descriptorIndex := 26, attributes := #[] }, { accessFlags := 26, nameIndex := 1116, descriptorIndex := 1117, attributes := #[] }, { accessFlags := 24, nameIndex := 40, descriptorIndex := 26, attributes := #[] }, { accessFlags := 26, nameIndex := 1101, descriptorIndex := 1102, attributes := #[] }, { accessFlags := 26, nameIndex := 1121, descriptorIndex := 1122, attributes := #[] }, { accessFlags := 25, nameIndex := 599, descriptorIndex := 600, attributes := #[] }, { accessFlags := 24, nameIndex := 1125, descriptorIndex := 18, attributes := #[] }, { accessFlags := 24, nameIndex := 1127, descriptorIndex := 18, attributes := #[] }])
  fields := #[{ name := "value", type := (.array .byte), accessFlags := 18, slot := 0, constantValue := 0 }, { name := "coder", type := .byte, accessFlags := 18, slot := 1, constantValue := 0 }, { name := "hash", type := .int, accessFlags := 2, slot := 2, constantValue := 0 }, { name := "hashIsZero", type := .boolean, accessFlags := 2, slot := 3, constantValue := 0 }, { name := "serialVersionUID", type := .long, accessFlags := 26, slot := 0, constantValue := 0 }, { name := "COMPACT_STRINGS", type := .boolean, accessFlags := 24, slot := 1, constantValue := 0 }, { name := "serialPersistentFields", type := (.array (.object "java/io/ObjectStreamField")), accessFlags := 26, slot := 2, constantValue := 0 }, { name := "REPL", type := .char, accessFlags := 26, slot := 3, constantValue := 0 }, { name := "CASE_INSENSITIVE_ORDER", type := (.object "java/util/Comparator"), accessFlags := 25, slot := 4, constantValue := 0 }, { name := "LATIN1", type := .byte, accessFlags := 24, slot := 5, constantValue := 0 }, { name := "UTF16", type := .byte, accessFlags := 24, slot := 6, constantValue := 0 }]
  methods := #[k7m0, k7m1, k7m2, k7m3, k7m4, k7m5, k7m6, k7m7]
  instanceTypes := #[(.array .byte), .byte, .int, .boolean]
  staticTypes := #[.long, .boolean, (.array (.object "java/io/ObjectStreamField")), .char, (.object "java/util/Comparator"), .byte, .byte]
  resolved := Array.replicate 1451 none
  statics := some 0 }

def pool8 : Array CpInfo := pool [(2, .class_ 4), (1, u "java/lang/Object"), (0, u "<init>"), (0, u "()V"), (0, .methodref 8 9), (0, .class_ 10), (0, .nameAndType 11 12), (0, u "java/lang/String"), (0, u "length"), (0, u "()I"), (0, .methodref 8 14), (0, .nameAndType 15 16), (0, u "charAt"), (0, u "(I)C"), (0, .methodref 18 19), (0, .class_ 20), (0, .nameAndType 21 22), (0, u "com/example/permgrid/permgrid/ControlCharacters"), (0, u "is"), (0, u "(C)Z"), (3, u "anyIn"), (0, u "(Ljava/lang/String;)Z")] 2

def k8m0 : Method := { name := "<init>", desc := "()V", sig := { parameters := [], returnType := none }, accessFlags := 2, code := none }
def k8c1 : Code := { maxStack := 2, maxLocals := 1, code := prog_13_method_2_code, exceptionTable := #[], attributes := #[] }
def k8m1 : Method := { name := "is", desc := "(C)Z", sig := { parameters := [.char], returnType := some .boolean }, accessFlags := 8, code := some k8c1 }
def k8c2 : Code := { maxStack := 2, maxLocals := 2, code := prog_13_method_3_code, exceptionTable := #[], attributes := #[] }
def k8m2 : Method := { name := "anyIn", desc := "(Ljava/lang/String;)Z", sig := { parameters := [(.object "java/lang/String")], returnType := some .boolean }, accessFlags := 8, code := some k8c2 }
/-- com/example/permgrid/permgrid/ControlCharacters -/
def k8 : Class := { plain "com/example/permgrid/permgrid/ControlCharacters" (some 0) with
  accessFlags := 48
  interfaces := #[]
  cf := some (fileOf pool8 18 #[] #[{ accessFlags := 2, nameIndex := 5, descriptorIndex := 6, attributes := #[] }, { accessFlags := 8, nameIndex := 21, descriptorIndex := 22, attributes := #[] }, { accessFlags := 8, nameIndex := 26, descriptorIndex := 27, attributes := #[] }] 48 2 #[] #[])
  fields := #[]
  methods := #[k8m0, k8m1, k8m2]
  instanceTypes := #[]
  staticTypes := #[]
  resolved := Array.replicate 30 none
  statics := none }

def pool9 : Array CpInfo := pool [(3, .class_ 4), (0, u "java/lang/String"), (1, .class_ 8), (1, u "java/lang/Object"), (0, u "<init>"), (0, u "()V"), (0, .methodref 12 13), (0, .class_ 14), (0, .nameAndType 15 16), (0, u "java/lang/StringUTF16"), (0, u "newBytesLength"), (0, u "(I)I"), (3, .integer 1073741823), (23, .fieldref 12 45), (0, .nameAndType 46 47), (0, u "$assertionsDisabled"), (0, u "Z"), (0, .methodref 12 49), (0, .nameAndType 50 51), (0, u "length"), (0, u "([B)I"), (7, .fieldref 12 60), (0, .nameAndType 61 62), (0, u "HI_BYTE_SHIFT"), (0, u "I"), (0, .fieldref 12 64), (0, .nameAndType 65 62), (0, u "LO_BYTE_SHIFT"), (1, .methodref 12 68), (0, .nameAndType 69 70), (0, u "checkIndex"), (0, u "(I[B)V"), (0, .methodref 12 72), (0, .nameAndType 73 74), (0, u "getChar"), (0, u "([BI)C"), (32, .methodref 12 108), (0, .nameAndType 109 110), (0, u "newBytesFor"), (0, u "(I)[B"), (0, .methodref 12 112), (0, .nameAndType 113 114), (0, u "putChar"), (0, u "([BII)V"), (0, .methodref 12 116), (0, .nameAndType 117 118), (0, u "compress"), (0, u "([CI[BII)I"), (0, .methodref 12 120), (0, .nameAndType 121 122), (0, u "toBytes"), (0, u "([CII)[B"), (138, u "coderFromArrayLen"), (0, u "([BI)B"), (106, .class_ 371), (1, u "java/lang/StringUTF16$LinesSpliterator"), (20, u "charAt"), (21, .methodref 3 415), (0, .nameAndType 69 416), (0, u "(II)V"), (13, u "MAX_LENGTH"), (196, .class_ 628), (0, u "java/lang/StringUTF16$CodePointsSpliterator"), (0, .class_ 630), (0, u "java/lang/StringUTF16$CharsSpliterator")] 4

def k9m0 : Method := { name := "<init>", desc := "()V", sig := { parameters := [], returnType := none }, accessFlags := 0, code := none }
def k9c1 : Code := { maxStack := 1, maxLocals := 1, code := jdk_52_method_2_code, exceptionTable := #[], attributes := #[] }
def k9m1 : Method := { name := "newBytesFor", desc := "(I)[B", sig := { parameters := [.int], returnType := some (.array .byte) }, accessFlags := 9, code := some k9c1 }
def k9c2 : Code := { maxStack := 4, maxLocals := 1, code := jdk_52_method_3_code, exceptionTable := #[], attributes := #[] }
def k9m2 : Method := { name := "newBytesLength", desc := "(I)I", sig := { parameters := [.int], returnType := some .int }, accessFlags := 9, code := some k9c2 }
def k9c3 : Code := { maxStack := 4, maxLocals := 3, code := jdk_52_method_4_code, exceptionTable := #[], attributes := #[] }
def k9m3 : Method := { name := "putChar", desc := "([BII)V", sig := { parameters := [(.array .byte), .int, .int], returnType := none }, accessFlags := 8, code := some k9c3 }
def k9c4 : Code := { maxStack := 3, maxLocals := 2, code := jdk_52_method_5_code, exceptionTable := #[], attributes := #[] }
def k9m4 : Method := { name := "getChar", desc := "([BI)C", sig := { parameters := [(.array .byte), .int], returnType := some .char }, accessFlags := 8, code := some k9c4 }
def k9c5 : Code := { maxStack := 2, maxLocals := 1, code := jdk_52_method_6_code, exceptionTable := #[], attributes := #[] }
def k9m5 : Method := { name := "length", desc := "([B)I", sig := { parameters := [(.array .byte)], returnType := some .int }, accessFlags := 9, code := some k9c5 }
def k9c6 : Code := { maxStack := 4, maxLocals := 5, code := jdk_52_method_14_code, exceptionTable := #[], attributes := #[] }
def k9m6 : Method := { name := "toBytes", desc := "([CII)[B", sig := { parameters := [(.array .char), .int, .int], returnType := some (.array .byte) }, accessFlags := 9, code := some k9c6 }
def k9c7 : Code := { maxStack := 2, maxLocals := 2, code := jdk_52_method_15_code, exceptionTable := #[], attributes := #[] }
def k9m7 : Method := { name := "coderFromArrayLen", desc := "([BI)B", sig := { parameters := [(.array .byte), .int], returnType := some .byte }, accessFlags := 8, code := some k9c7 }
def k9c8 : Code := { maxStack := 5, maxLocals := 6, code := jdk_52_method_16_code, exceptionTable := #[], attributes := #[] }
def k9m8 : Method := { name := "compress", desc := "([CII)[B", sig := { parameters := [(.array .char), .int, .int], returnType := some (.array .byte) }, accessFlags := 9, code := some k9c8 }
def k9c9 : Code := { maxStack := 3, maxLocals := 7, code := jdk_52_method_21_code, exceptionTable := #[], attributes := #[] }
def k9m9 : Method := { name := "compress", desc := "([CI[BII)I", sig := { parameters := [(.array .char), .int, (.array .byte), .int, .int], returnType := some .int }, accessFlags := 9, code := some k9c9 }
def k9c10 : Code := { maxStack := 2, maxLocals := 2, code := jdk_52_method_83_code, exceptionTable := #[], attributes := #[] }
def k9m10 : Method := { name := "charAt", desc := "([BI)C", sig := { parameters := [(.array .byte), .int], returnType := some .char }, accessFlags := 9, code := some k9c10 }
def k9c11 : Code := { maxStack := 2, maxLocals := 2, code := jdk_52_method_91_code, exceptionTable := #[], attributes := #[] }
def k9m11 : Method := { name := "checkIndex", desc := "(I[B)V", sig := { parameters := [.int, (.array .byte)], returnType := none }, accessFlags := 9, code := some k9c11 }
/-- java/lang/StringUTF16 -/
def k9 : Class := { plain "java/lang/StringUTF16" (some 0) with
  accessFlags := 48
  interfaces := #[]
  cf := some (fileOf pool9 12 #[.nestMembers #[627, 629, 369]] #[{ accessFlags := 0, nameIndex := 9, descriptorIndex := 10, attributes := #[] }, { accessFlags := 9, nameIndex := 109, descriptorIndex := 110, attributes := #[] }, { accessFlags := 9, nameIndex := 15, descriptorIndex := 16, attributes := #[] }, { accessFlags := 8, nameIndex := 113, descriptorIndex := 114, attributes := #[] }, { accessFlags := 8, nameIndex := 73, descriptorIndex := 74, attributes := #[] }, { accessFlags := 9, nameIndex := 50, descriptorIndex := 51, attributes := #[] }, { accessFlags := 9, nameIndex := 121, descriptorIndex := 122, attributes := #[] }, { accessFlags := 8, nameIndex := 261, descriptorIndex := 262, attributes := #[] }, { accessFlags := 9, nameIndex := 117, descriptorIndex := 122, attributes := #[] }, { accessFlags := 9, nameIndex := 117, descriptorIndex := 118, attributes := #[] }, { accessFlags := 9, nameIndex := 392, descriptorIndex := 74, attributes := #[] }, { accessFlags := 9, nameIndex := 69, descriptorIndex := 70, attributes := #[] }] 48 6 #[] #[{ accessFlags := 26, nameIndex := 61, descriptorIndex := 62, attributes := #[] }, { accessFlags := 26, nameIndex := 65, descriptorIndex := 62, attributes := #[] }, { accessFlags := 24, nameIndex := 430, descriptorIndex := 62, attributes := #[] }, { accessFlags := 4120, nameIndex := 46, descriptorIndex := 47, attributes := #[] }])
  fields := #[{ name := "HI_BYTE_SHIFT", type := .int, accessFlags := 26, slot := 0, constantValue := 0 }, { name := "LO_BYTE_SHIFT", type := .int, accessFlags := 26, slot := 1, constantValue := 0 }, { name := "MAX_LENGTH", type := .int, accessFlags := 24, slot := 2, constantValue := 0 }, { name := "$assertionsDisabled", type := .boolean, accessFlags := 4120, slot := 3, constantValue := 0 }]
  methods := #[k9m0, k9m1, k9m2, k9m3, k9m4, k9m5, k9m6, k9m7, k9m8, k9m9, k9m10, k9m11]
  instanceTypes := #[]
  staticTypes := #[.int, .int, .int, .boolean]
  resolved := Array.replicate 635 none
  statics := some 1 }

def pool10 : Array CpInfo := pool [(1, .class_ 2), (0, u "java/lang/String"), (1, .class_ 6), (1, u "java/lang/Object"), (0, u "<init>"), (0, u "()V"), (0, .methodref 1 10), (0, .nameAndType 11 12), (0, u "checkIndex"), (0, u "(II)V"), (1, .class_ 16), (1, u "java/lang/StringLatin1"), (36, u "([BI)C"), (67, u "$assertionsDisabled"), (0, u "Z"), (98, .class_ 223), (1, u "java/lang/StringLatin1$LinesSpliterator"), (28, u "charAt"), (137, .class_ 391), (0, u "java/lang/StringLatin1$CharsSpliterator")] 3

def k10m0 : Method := { name := "<init>", desc := "()V", sig := { parameters := [], returnType := none }, accessFlags := 0, code := none }
def k10c1 : Code := { maxStack := 2, maxLocals := 2, code := jdk_43_method_2_code, exceptionTable := #[], attributes := #[] }
def k10m1 : Method := { name := "charAt", desc := "([BI)C", sig := { parameters := [(.array .byte), .int], returnType := some .char }, accessFlags := 9, code := some k10c1 }
/-- java/lang/StringLatin1 -/
def k10 : Class := { plain "java/lang/StringLatin1" (some 0) with
  accessFlags := 48
  interfaces := #[]
  cf := some (fileOf pool10 14 #[.nestMembers #[390, 221]] #[{ accessFlags := 0, nameIndex := 7, descriptorIndex := 8, attributes := #[] }, { accessFlags := 9, nameIndex := 252, descriptorIndex := 53, attributes := #[] }] 48 4 #[] #[{ accessFlags := 4120, nameIndex := 121, descriptorIndex := 122, attributes := #[] }])
  fields := #[{ name := "$assertionsDisabled", type := .boolean, accessFlags := 4120, slot := 0, constantValue := 0 }]
  methods := #[k10m0, k10m1]
  instanceTypes := #[]
  staticTypes := #[.boolean]
  resolved := Array.replicate 395 none
  statics := none }

def pool11 : Array CpInfo := pool [(2, .class_ 4), (1, u "java/lang/Object"), (0, u "<init>"), (0, u "()V"), (17, .class_ 26), (1, u "jdk/internal/util/Preconditions"), (6, u "checkIndex"), (21, .class_ 56), (0, u "jdk/internal/util/Preconditions$4"), (57, .class_ 115), (0, u "jdk/internal/util/Preconditions$1"), (7, u "SIOOBE_FORMATTER"), (0, u "Ljava/util/function/BiFunction;"), (0, .class_ 126), (0, u "jdk/internal/util/Preconditions$2"), (3, u "AIOOBE_FORMATTER"), (0, .class_ 132), (0, u "jdk/internal/util/Preconditions$3"), (3, u "IOOBE_FORMATTER"), (41, u "(IILjava/util/function/BiFunction;)I")] 15

def k11m0 : Method := { name := "<init>", desc := "()V", sig := { parameters := [], returnType := none }, accessFlags := 1, code := none }
def k11c1 : Code := { maxStack := 3, maxLocals := 3, code := jdk_41_method_11_code, exceptionTable := #[], attributes := #[] }
def k11m1 : Method := { name := "checkIndex", desc := "(IILjava/util/function/BiFunction;)I", sig := { parameters := [.int, .int, (.object "java/util/function/BiFunction")], returnType := some .int }, accessFlags := 9, code := some k11c1 }
/-- jdk/internal/util/Preconditions -/
def k11 : Class := { plain "jdk/internal/util/Preconditions" (some 0) with
  accessFlags := 33
  interfaces := #[]
  cf := some (fileOf pool11 24 #[.nestMembers #[55, 131, 125, 114]] #[{ accessFlags := 1, nameIndex := 5, descriptorIndex := 6, attributes := #[] }, { accessFlags := 9, nameIndex := 33, descriptorIndex := 178, attributes := #[] }] 33 2 #[] #[{ accessFlags := 25, nameIndex := 123, descriptorIndex := 124, attributes := #[] }, { accessFlags := 25, nameIndex := 130, descriptorIndex := 124, attributes := #[] }, { accessFlags := 25, nameIndex := 136, descriptorIndex := 124, attributes := #[] }])
  fields := #[{ name := "SIOOBE_FORMATTER", type := (.object "java/util/function/BiFunction"), accessFlags := 25, slot := 0, constantValue := 0 }, { name := "AIOOBE_FORMATTER", type := (.object "java/util/function/BiFunction"), accessFlags := 25, slot := 1, constantValue := 0 }, { name := "IOOBE_FORMATTER", type := (.object "java/util/function/BiFunction"), accessFlags := 25, slot := 2, constantValue := 0 }]
  methods := #[k11m0, k11m1]
  instanceTypes := #[]
  staticTypes := #[(.object "java/util/function/BiFunction"), (.object "java/util/function/BiFunction"), (.object "java/util/function/BiFunction")]
  resolved := Array.replicate 194 none
  statics := some 2 }

def pool12 : Array CpInfo := pool [(9, u "<init>"), (6, .class_ 18), (1, u "java/lang/Object"), (0, u "()V"), (1, .class_ 23), (1, u "jdk/internal/util/ArraysSupport"), (0, u "LOG2_ARRAY_LONG_INDEX_SCALE"), (0, u "I"), (2, u "U"), (0, u "Ljdk/internal/misc/Unsafe;"), (8, u "BIG_ENDIAN"), (0, u "Z"), (8, u "LOG2_BYTE_BIT_SIZE"), (4, u "LOG2_ARRAY_INT_INDEX_SCALE"), (54, u "JLA"), (0, u "Ljdk/internal/access/JavaLangAccess;"), (11, u "LOG2_ARRAY_BOOLEAN_INDEX_SCALE"), (9, u "LOG2_ARRAY_BYTE_INDEX_SCALE"), (5, u "LOG2_ARRAY_CHAR_INDEX_SCALE"), (5, u "LOG2_ARRAY_SHORT_INDEX_SCALE"), (18, u "LOG2_ARRAY_FLOAT_INDEX_SCALE"), (24, u "LOG2_ARRAY_DOUBLE_INDEX_SCALE"), (89, u "T_BOOLEAN"), (2, u "T_CHAR"), (1, u "T_FLOAT"), (1, u "T_DOUBLE"), (1, u "T_BYTE"), (1, u "T_SHORT"), (1, u "T_INT"), (1, u "T_LONG"), (1, u "SOFT_MAX_ARRAY_LENGTH")] 83

def k12m0 : Method := { name := "<init>", desc := "()V", sig := { parameters := [], returnType := none }, accessFlags := 2, code := none }
/-- jdk/internal/util/ArraysSupport -/
def k12 : Class := { plain "jdk/internal/util/ArraysSupport" (some 0) with
  accessFlags := 33
  interfaces := #[]
  cf := some (fileOf pool12 21 #[] #[{ accessFlags := 2, nameIndex := 9, descriptorIndex := 19, attributes := #[] }] 33 16 #[] #[{ accessFlags := 24, nameIndex := 28, descriptorIndex := 29, attributes := #[] }, { accessFlags := 26, nameIndex := 38, descriptorIndex := 39, attributes := #[] }, { accessFlags := 25, nameIndex := 121, descriptorIndex := 25, attributes := #[] }, { accessFlags := 25, nameIndex := 131, descriptorIndex := 25, attributes := #[] }, { accessFlags := 25, nameIndex := 137, descriptorIndex := 25, attributes := #[] }, { accessFlags := 25, nameIndex := 143, descriptorIndex := 25, attributes := #[] }, { accessFlags := 25, nameIndex := 53, descriptorIndex := 25, attributes := #[] }, { accessFlags := 25, nameIndex := 24, descriptorIndex := 25, attributes := #[] }, { accessFlags := 25, nameIndex := 162, descriptorIndex := 25, attributes := #[] }, { accessFlags := 25, nameIndex := 187, descriptorIndex := 25, attributes := #[] }, { accessFlags := 26, nameIndex := 48, descriptorIndex := 25, attributes := #[] }, { accessFlags := 25, nameIndex := 277, descriptorIndex := 25, attributes := #[] }, { accessFlags := 25, nameIndex := 280, descriptorIndex := 25, attributes := #[] }, { accessFlags := 25, nameIndex := 282, descriptorIndex := 25, attributes := #[] }, { accessFlags := 25, nameIndex := 284, descriptorIndex := 25, attributes := #[] }, { accessFlags := 25, nameIndex := 286, descriptorIndex := 25, attributes := #[] }, { accessFlags := 25, nameIndex := 288, descriptorIndex := 25, attributes := #[] }, { accessFlags := 25, nameIndex := 290, descriptorIndex := 25, attributes := #[] }, { accessFlags := 25, nameIndex := 292, descriptorIndex := 25, attributes := #[] }, { accessFlags := 26, nameIndex := 108, descriptorIndex := 109, attributes := #[] }, { accessFlags := 25, nameIndex := 294, descriptorIndex := 25, attributes := #[] }])
  fields := #[{ name := "U", type := (.object "jdk/internal/misc/Unsafe"), accessFlags := 24, slot := 0, constantValue := 0 }, { name := "BIG_ENDIAN", type := .boolean, accessFlags := 26, slot := 1, constantValue := 0 }, { name := "LOG2_ARRAY_BOOLEAN_INDEX_SCALE", type := .int, accessFlags := 25, slot := 2, constantValue := 0 }, { name := "LOG2_ARRAY_BYTE_INDEX_SCALE", type := .int, accessFlags := 25, slot := 3, constantValue := 0 }, { name := "LOG2_ARRAY_CHAR_INDEX_SCALE", type := .int, accessFlags := 25, slot := 4, constantValue := 0 }, { name := "LOG2_ARRAY_SHORT_INDEX_SCALE", type := .int, accessFlags := 25, slot := 5, constantValue := 0 }, { name := "LOG2_ARRAY_INT_INDEX_SCALE", type := .int, accessFlags := 25, slot := 6, constantValue := 0 }, { name := "LOG2_ARRAY_LONG_INDEX_SCALE", type := .int, accessFlags := 25, slot := 7, constantValue := 0 }, { name := "LOG2_ARRAY_FLOAT_INDEX_SCALE", type := .int, accessFlags := 25, slot := 8, constantValue := 0 }, { name := "LOG2_ARRAY_DOUBLE_INDEX_SCALE", type := .int, accessFlags := 25, slot := 9, constantValue := 0 }, { name := "LOG2_BYTE_BIT_SIZE", type := .int, accessFlags := 26, slot := 10, constantValue := 0 }, { name := "T_BOOLEAN", type := .int, accessFlags := 25, slot := 11, constantValue := 0 }, { name := "T_CHAR", type := .int, accessFlags := 25, slot := 12, constantValue := 0 }, { name := "T_FLOAT", type := .int, accessFlags := 25, slot := 13, constantValue := 0 }, { name := "T_DOUBLE", type := .int, accessFlags := 25, slot := 14, constantValue := 0 }, { name := "T_BYTE", type := .int, accessFlags := 25, slot := 15, constantValue := 0 }, { name := "T_SHORT", type := .int, accessFlags := 25, slot := 16, constantValue := 0 }, { name := "T_INT", type := .int, accessFlags := 25, slot := 17, constantValue := 0 }, { name := "T_LONG", type := .int, accessFlags := 25, slot := 18, constantValue := 0 }, { name := "JLA", type := (.object "jdk/internal/access/JavaLangAccess"), accessFlags := 26, slot := 19, constantValue := 0 }, { name := "SOFT_MAX_ARRAY_LENGTH", type := .int, accessFlags := 25, slot := 20, constantValue := 0 }]
  methods := #[k12m0]
  instanceTypes := #[]
  staticTypes := #[(.object "jdk/internal/misc/Unsafe"), .boolean, .int, .int, .int, .int, .int, .int, .int, .int, .int, .int, .int, .int, .int, .int, .int, .int, .int, (.object "jdk/internal/access/JavaLangAccess"), .int]
  resolved := Array.replicate 378 none
  statics := none }

def pool13 : Array CpInfo := pool [(1, u "java/lang/Cloneable"), (0, .class_ 1), (0, u "java/lang/Object"), (0, .class_ 3)] 3

/-- java/lang/Cloneable -/
def k13 : Class := { plain "java/lang/Cloneable" (some 0) with
  accessFlags := 1537
  interfaces := #[]
  cf := some (fileOf pool13 2 #[] #[] 1537 4 #[] #[])
  fields := #[]
  methods := #[]
  instanceTypes := #[]
  staticTypes := #[]
  resolved := Array.replicate 8 none
  statics := none }

/-- the primitive byte -/
def k14 : Class := { plain "byte" none with kind := .primitive 'B', accessFlags := 0x411 }
/-- [B -/
def k15 : Class := { plain "[B" (some 0) with kind := .array 14 .byte, interfaces := #[13, 2], accessFlags := 1041 }

/-- the primitive char -/
def k16 : Class := { plain "char" none with kind := .primitive 'C', accessFlags := 0x411 }
/-- [C -/
def k17 : Class := { plain "[C" (some 0) with kind := .array 16 .char, interfaces := #[13, 2], accessFlags := 1041 }

/-- the primitive int -/
def k18 : Class := { plain "int" none with kind := .primitive 'I', accessFlags := 0x411 }
/-- [I -/
def k19 : Class := { plain "[I" (some 0) with kind := .array 18 .int, interfaces := #[13, 2], accessFlags := 1041 }

def heap : Heap := #[{ cls := 7, slots := #[.long 0, .int 1, .null, .int 0, .null, .int 0, .int 0], vm := .statics 7 },
  { cls := 9, slots := #[.int 0, .int 8, .int 0, .int 1], vm := .statics 9 },
  { cls := 11, slots := #[.null, .null, .null], vm := .statics 11 }]
def classes : Array Class := #[k0, k1, k2, k3, k4, k5, k6, k7, k8, k9, k10, k11, k12, k13, k14, k15, k16, k17, k18, k19]
def interned : List (Array UInt16 × Addr) := []
def slotsUsed : Nat := 14
def theMethod : MethodId := ⟨1, 2⟩
def args0 : Array Value := #[.int 5, .int 3, .int 4, .int 6, .int 7]
def aboutOver (below : List Frame) : State where
  vm := { classes := classes, interned := interned.toArray }
  heap := heap
  slotsUsed := slotsUsed
  threads := #[{ frames := .invoking theMethod args0 :: below }]
def below0 : List Frame := [.native { method := ⟨0, 0⟩, args := #[] }]
def about1 : State := aboutOver below0
def p0 : Program := .bare "" "" ""
def e0 : Env := launch0.env 0 0 0
theorem w_frames : about1.frames = Frame.invoking theMethod args0 :: below0 := rfl
set_option maxRecDepth 65536 in
theorem w_args : argsFit about1.vm theMethod args0 = true := by decide +kernel
set_option maxRecDepth 65536 in
theorem w_heap : heapFits about1 = true := by decide +kernel
set_option maxRecDepth 65536 in
theorem w_runnable : about1.curStatus? = some .runnable := by decide +kernel
set_option maxRecDepth 65536 in
theorem w_alone : about1.alone = true := by decide +kernel
set_option maxRecDepth 65536 in
theorem w_named : about1.methodNamed? x = some theMethod := by decide +kernel
set_option maxRecDepth 65536 in
theorem w_hears : about1.hears theMethod below0 = true := by decide +kernel
set_option maxRecDepth 65536 in
theorem w_ripe : about1.ripe theMethod args0 below0 = true := by decide +kernel
theorem w_running : about1.status = .running := rfl
set_option maxRecDepth 65536 in
theorem w_room : about1.hasRoom e0.platform room_1 = true :=
  launch0.hasRoom_least _ room_1 (by decide +kernel) (by decide +kernel) (by decide +kernel) (by decide +kernel) (by decide +kernel) (by decide +kernel)
theorem allAtoms_all (ts : List Jvm.Cond) (a : Array Jvm.Value) (st : Jvm.State) : (allAtoms ts).before a st = ts.all (fun c => c.before a st) := by
  induction ts with
  | nil => rfl
  | cons c t ih =>
    show (Jvm.Cond.and c (allAtoms t)).before a st = _
    rw [Jvm.Cond.before_and, ih, List.all_cons]
def words1 : List Jvm.Cond := Jvm.Cond.code x code maxLocals ret :: tables_1
/-- a 'code' word, met by the world's own term for the bytes: nothing is compared byte by byte -/
theorem code_word {y : MethodName} {bytes : ByteArray} {mx : Nat} {rt : Option FieldType} {a : Array Value} {s : State} {m : MethodId} {meth : Method} {c : Code} (h1 : s.methodNamed? y = some m) (h2 : s.vm.method? m = some meth) (h3 : meth.code = some c) (h4 : c.code = bytes)
    (h5 : (c.maxLocals == mx && c.exceptionTable.isEmpty && decide (c.maxStack ≤ mostOperands) && decide (meth.sig.returnType = rt) && !meth.locks && decide (parseMethodDescriptor y.desc = some meth.sig)) = true) : (Jvm.Cond.code y bytes mx rt).before a s = true := by
  simp only [Bool.and_eq_true, beq_iff_eq, Bool.not_eq_true', decide_eq_true_eq] at h5
  obtain ⟨⟨⟨⟨⟨g1, g2⟩, g3⟩, g4⟩, g5⟩, g6⟩ := h5
  simp [Cond.before, Cond.holds, Cond.value, h1, h2, h3, h4, g1, g2, g3, g4, g5, g6]
def isCode : Jvm.Cond → Bool
  | .code _ _ _ _ => true
  | _ => false
theorem all_split {L : List Jvm.Cond} {P : Jvm.Cond → Bool} (h1 : L.all (fun c => isCode c || P c) = true) (h2 : ∀ c ∈ L.filter isCode, P c = true) : L.all P = true := by
  refine List.all_eq_true.mpr fun c hc => ?_
  have h := List.all_eq_true.mp h1 c hc
  rcases Bool.eq_false_or_eq_true (isCode c) with hi | hi
  · exact h2 c (List.mem_filter.mpr ⟨hc, hi⟩)
  · simpa [hi] using h
set_option maxRecDepth 65536 in
theorem w_c0 : (Jvm.Cond.code x code maxLocals ret).before args0 about1 = true := code_word (m := ⟨1, 2⟩) (meth := k1m2) (c := k1c2) (by decide +kernel) rfl rfl rfl (by decide +kernel)
set_option maxRecDepth 65536 in
theorem w_c1 : (Jvm.Cond.code ({ cls := "java/lang/String", name := "<init>", desc := "([C)V" } : Jvm.MethodName) jdk_42_method_3_code (2 : Nat) (Option.none : Option Jvm.ClassFile.FieldType)).before args0 about1 = true := code_word (m := ⟨7, 1⟩) (meth := k7m1) (c := k7c1) (by decide +kernel) rfl rfl rfl (by decide +kernel)
set_option maxRecDepth 65536 in
theorem w_c2 : (Jvm.Cond.code ({ cls := "java/lang/String", name := "<init>", desc := "([CIILjava/lang/Void;)V" } : Jvm.MethodName) jdk_42_method_149_code (6 : Nat) (Option.none : Option Jvm.ClassFile.FieldType)).before args0 about1 = true := code_word (m := ⟨7, 4⟩) (meth := k7m4) (c := k7c4) (by decide +kernel) rfl rfl rfl (by decide +kernel)
set_option maxRecDepth 65536 in
theorem w_c3 : (Jvm.Cond.code ({ cls := "java/lang/Object", name := "<init>", desc := "()V" } : Jvm.MethodName) object_method_1_code (1 : Nat) (Option.none : Option Jvm.ClassFile.FieldType)).before args0 about1 = true := code_word (m := ⟨0, 0⟩) (meth := k0m0) (c := k0c0) (by decide +kernel) rfl rfl rfl (by decide +kernel)
set_option maxRecDepth 65536 in
theorem w_c4 : (Jvm.Cond.code ({ cls := "com/example/permgrid/permgrid/ControlCharacters", name := "anyIn", desc := "(Ljava/lang/String;)Z" } : Jvm.MethodName) prog_13_method_3_code (2 : Nat) (Option.some Jvm.ClassFile.FieldType.boolean)).before args0 about1 = true := code_word (m := ⟨8, 2⟩) (meth := k8m2) (c := k8c2) (by decide +kernel) rfl rfl rfl (by decide +kernel)
set_option maxRecDepth 65536 in
theorem w_c5 : (Jvm.Cond.code ({ cls := "java/lang/String", name := "length", desc := "()I" } : Jvm.MethodName) jdk_42_method_54_code (1 : Nat) (Option.some Jvm.ClassFile.FieldType.int)).before args0 about1 = true := code_word (m := ⟨7, 2⟩) (meth := k7m2) (c := k7c2) (by decide +kernel) rfl rfl rfl (by decide +kernel)
set_option maxRecDepth 65536 in
theorem w_c6 : (Jvm.Cond.code ({ cls := "java/lang/String", name := "coder", desc := "()B" } : Jvm.MethodName) jdk_42_method_152_code (1 : Nat) (Option.some Jvm.ClassFile.FieldType.byte)).before args0 about1 = true := code_word (m := ⟨7, 5⟩) (meth := k7m5) (c := k7c5) (by decide +kernel) rfl rfl rfl (by decide +kernel)
set_option maxRecDepth 65536 in
theorem w_c7 : (Jvm.Cond.code ({ cls := "java/lang/StringUTF16", name := "compress", desc := "([CII)[B" } : Jvm.MethodName) jdk_52_method_16_code (6 : Nat) (Option.some (Jvm.ClassFile.FieldType.array Jvm.ClassFile.FieldType.byte))).before args0 about1 = true := code_word (m := ⟨9, 8⟩) (meth := k9m8) (c := k9c8) (by decide +kernel) rfl rfl rfl (by decide +kernel)
set_option maxRecDepth 65536 in
theorem w_c8 : (Jvm.Cond.code ({ cls := "java/lang/StringUTF16", name := "compress", desc := "([CI[BII)I" } : Jvm.MethodName) jdk_52_method_21_code (7 : Nat) (Option.some Jvm.ClassFile.FieldType.int)).before args0 about1 = true := code_word (m := ⟨9, 9⟩) (meth := k9m9) (c := k9c9) (by decide +kernel) rfl rfl rfl (by decide +kernel)
set_option maxRecDepth 65536 in
theorem w_c9 : (Jvm.Cond.code ({ cls := "java/lang/StringUTF16", name := "coderFromArrayLen", desc := "([BI)B" } : Jvm.MethodName) jdk_52_method_15_code (2 : Nat) (Option.some Jvm.ClassFile.FieldType.byte)).before args0 about1 = true := code_word (m := ⟨9, 7⟩) (meth := k9m7) (c := k9c7) (by decide +kernel) rfl rfl rfl (by decide +kernel)
set_option maxRecDepth 65536 in
theorem w_c10 : (Jvm.Cond.code ({ cls := "com/example/permgrid/permgrid/ControlCharactersAnyInPinLaw", name := "ctl", desc := "(C)Z" } : Jvm.MethodName) method_2_code (2 : Nat) (Option.some Jvm.ClassFile.FieldType.boolean)).before args0 about1 = true := code_word (m := ⟨1, 1⟩) (meth := k1m1) (c := k1c1) (by decide +kernel) rfl rfl rfl (by decide +kernel)
set_option maxRecDepth 65536 in
theorem w_c11 : (Jvm.Cond.code ({ cls := "java/lang/String", name := "charAt", desc := "(I)C" } : Jvm.MethodName) jdk_42_method_56_code (2 : Nat) (Option.some Jvm.ClassFile.FieldType.char)).before args0 about1 = true := code_word (m := ⟨7, 3⟩) (meth := k7m3) (c := k7c3) (by decide +kernel) rfl rfl rfl (by decide +kernel)
set_option maxRecDepth 65536 in
theorem w_c12 : (Jvm.Cond.code ({ cls := "java/lang/String", name := "isLatin1", desc := "()Z" } : Jvm.MethodName) jdk_42_method_154_code (1 : Nat) (Option.some Jvm.ClassFile.FieldType.boolean)).before args0 about1 = true := code_word (m := ⟨7, 6⟩) (meth := k7m6) (c := k7c6) (by decide +kernel) rfl rfl rfl (by decide +kernel)
set_option maxRecDepth 65536 in
theorem w_c13 : (Jvm.Cond.code ({ cls := "java/lang/StringLatin1", name := "charAt", desc := "([BI)C" } : Jvm.MethodName) jdk_43_method_2_code (2 : Nat) (Option.some Jvm.ClassFile.FieldType.char)).before args0 about1 = true := code_word (m := ⟨10, 1⟩) (meth := k10m1) (c := k10c1) (by decide +kernel) rfl rfl rfl (by decide +kernel)
set_option maxRecDepth 65536 in
theorem w_c14 : (Jvm.Cond.code ({ cls := "java/lang/String", name := "checkIndex", desc := "(II)V" } : Jvm.MethodName) jdk_42_method_155_code (2 : Nat) (Option.none : Option Jvm.ClassFile.FieldType)).before args0 about1 = true := code_word (m := ⟨7, 7⟩) (meth := k7m7) (c := k7c7) (by decide +kernel) rfl rfl rfl (by decide +kernel)
set_option maxRecDepth 65536 in
theorem w_c15 : (Jvm.Cond.code ({ cls := "jdk/internal/util/Preconditions", name := "checkIndex", desc := "(IILjava/util/function/BiFunction;)I" } : Jvm.MethodName) jdk_41_method_11_code (3 : Nat) (Option.some Jvm.ClassFile.FieldType.int)).before args0 about1 = true := code_word (m := ⟨11, 1⟩) (meth := k11m1) (c := k11c1) (by decide +kernel) rfl rfl rfl (by decide +kernel)
set_option maxRecDepth 65536 in
theorem w_c16 : (Jvm.Cond.code ({ cls := "com/example/permgrid/permgrid/ControlCharacters", name := "is", desc := "(C)Z" } : Jvm.MethodName) prog_13_method_2_code (1 : Nat) (Option.some Jvm.ClassFile.FieldType.boolean)).before args0 about1 = true := code_word (m := ⟨8, 1⟩) (meth := k8m1) (c := k8c1) (by decide +kernel) rfl rfl rfl (by decide +kernel)
set_option maxRecDepth 65536 in
theorem w_c17 : (Jvm.Cond.code ({ cls := "java/lang/StringUTF16", name := "toBytes", desc := "([CII)[B" } : Jvm.MethodName) jdk_52_method_14_code (5 : Nat) (Option.some (Jvm.ClassFile.FieldType.array Jvm.ClassFile.FieldType.byte))).before args0 about1 = true := code_word (m := ⟨9, 6⟩) (meth := k9m6) (c := k9c6) (by decide +kernel) rfl rfl rfl (by decide +kernel)
set_option maxRecDepth 65536 in
theorem w_c18 : (Jvm.Cond.code ({ cls := "java/lang/StringUTF16", name := "newBytesFor", desc := "(I)[B" } : Jvm.MethodName) jdk_52_method_2_code (1 : Nat) (Option.some (Jvm.ClassFile.FieldType.array Jvm.ClassFile.FieldType.byte))).before args0 about1 = true := code_word (m := ⟨9, 1⟩) (meth := k9m1) (c := k9c1) (by decide +kernel) rfl rfl rfl (by decide +kernel)
set_option maxRecDepth 65536 in
theorem w_c19 : (Jvm.Cond.code ({ cls := "java/lang/StringUTF16", name := "newBytesLength", desc := "(I)I" } : Jvm.MethodName) jdk_52_method_3_code (1 : Nat) (Option.some Jvm.ClassFile.FieldType.int)).before args0 about1 = true := code_word (m := ⟨9, 2⟩) (meth := k9m2) (c := k9c2) (by decide +kernel) rfl rfl rfl (by decide +kernel)
set_option maxRecDepth 65536 in
theorem w_c20 : (Jvm.Cond.code ({ cls := "java/lang/StringUTF16", name := "putChar", desc := "([BII)V" } : Jvm.MethodName) jdk_52_method_4_code (3 : Nat) (Option.none : Option Jvm.ClassFile.FieldType)).before args0 about1 = true := code_word (m := ⟨9, 3⟩) (meth := k9m3) (c := k9c3) (by decide +kernel) rfl rfl rfl (by decide +kernel)
set_option maxRecDepth 65536 in
theorem w_c21 : (Jvm.Cond.code ({ cls := "java/lang/StringUTF16", name := "getChar", desc := "([BI)C" } : Jvm.MethodName) jdk_52_method_5_code (2 : Nat) (Option.some Jvm.ClassFile.FieldType.char)).before args0 about1 = true := code_word (m := ⟨9, 4⟩) (meth := k9m4) (c := k9c4) (by decide +kernel) rfl rfl rfl (by decide +kernel)
set_option maxRecDepth 65536 in
theorem w_c22 : (Jvm.Cond.code ({ cls := "java/lang/StringUTF16", name := "charAt", desc := "([BI)C" } : Jvm.MethodName) jdk_52_method_83_code (2 : Nat) (Option.some Jvm.ClassFile.FieldType.char)).before args0 about1 = true := code_word (m := ⟨9, 10⟩) (meth := k9m10) (c := k9c10) (by decide +kernel) rfl rfl rfl (by decide +kernel)
set_option maxRecDepth 65536 in
theorem w_c23 : (Jvm.Cond.code ({ cls := "java/lang/StringUTF16", name := "checkIndex", desc := "(I[B)V" } : Jvm.MethodName) jdk_52_method_91_code (2 : Nat) (Option.none : Option Jvm.ClassFile.FieldType)).before args0 about1 = true := code_word (m := ⟨9, 11⟩) (meth := k9m11) (c := k9c11) (by decide +kernel) rfl rfl rfl (by decide +kernel)
set_option maxRecDepth 65536 in
theorem w_c24 : (Jvm.Cond.code ({ cls := "java/lang/StringUTF16", name := "length", desc := "([B)I" } : Jvm.MethodName) jdk_52_method_6_code (1 : Nat) (Option.some Jvm.ClassFile.FieldType.int)).before args0 about1 = true := code_word (m := ⟨9, 5⟩) (meth := k9m5) (c := k9c5) (by decide +kernel) rfl rfl rfl (by decide +kernel)
def codes1 : List Jvm.Cond := [Jvm.Cond.code x code maxLocals ret, Jvm.Cond.code ({ cls := "java/lang/String", name := "<init>", desc := "([C)V" } : Jvm.MethodName) jdk_42_method_3_code (2 : Nat) (Option.none : Option Jvm.ClassFile.FieldType), Jvm.Cond.code ({ cls := "java/lang/String", name := "<init>", desc := "([CIILjava/lang/Void;)V" } : Jvm.MethodName) jdk_42_method_149_code (6 : Nat) (Option.none : Option Jvm.ClassFile.FieldType), Jvm.Cond.code ({ cls := "java/lang/Object", name := "<init>", desc := "()V" } : Jvm.MethodName) object_method_1_code (1 : Nat) (Option.none : Option Jvm.ClassFile.FieldType), Jvm.Cond.code ({ cls := "com/example/permgrid/permgrid/ControlCharacters", name := "anyIn", desc := "(Ljava/lang/String;)Z" } : Jvm.MethodName) prog_13_method_3_code (2 : Nat) (Option.some Jvm.ClassFile.FieldType.boolean), Jvm.Cond.code ({ cls := "java/lang/String", name := "length", desc := "()I" } : Jvm.MethodName) jdk_42_method_54_code (1 : Nat) (Option.some Jvm.ClassFile.FieldType.int), Jvm.Cond.code ({ cls := "java/lang/String", name := "coder", desc := "()B" } : Jvm.MethodName) jdk_42_method_152_code (1 : Nat) (Option.some Jvm.ClassFile.FieldType.byte), Jvm.Cond.code ({ cls := "java/lang/StringUTF16", name := "compress", desc := "([CII)[B" } : Jvm.MethodName) jdk_52_method_16_code (6 : Nat) (Option.some (Jvm.ClassFile.FieldType.array Jvm.ClassFile.FieldType.byte)), Jvm.Cond.code ({ cls := "java/lang/StringUTF16", name := "compress", desc := "([CI[BII)I" } : Jvm.MethodName) jdk_52_method_21_code (7 : Nat) (Option.some Jvm.ClassFile.FieldType.int), Jvm.Cond.code ({ cls := "java/lang/StringUTF16", name := "coderFromArrayLen", desc := "([BI)B" } : Jvm.MethodName) jdk_52_method_15_code (2 : Nat) (Option.some Jvm.ClassFile.FieldType.byte), Jvm.Cond.code ({ cls := "com/example/permgrid/permgrid/ControlCharactersAnyInPinLaw", name := "ctl", desc := "(C)Z" } : Jvm.MethodName) method_2_code (2 : Nat) (Option.some Jvm.ClassFile.FieldType.boolean), Jvm.Cond.code ({ cls := "java/lang/String", name := "charAt", desc := "(I)C" } : Jvm.MethodName) jdk_42_method_56_code (2 : Nat) (Option.some Jvm.ClassFile.FieldType.char), Jvm.Cond.code ({ cls := "java/lang/String", name := "isLatin1", desc := "()Z" } : Jvm.MethodName) jdk_42_method_154_code (1 : Nat) (Option.some Jvm.ClassFile.FieldType.boolean), Jvm.Cond.code ({ cls := "java/lang/StringLatin1", name := "charAt", desc := "([BI)C" } : Jvm.MethodName) jdk_43_method_2_code (2 : Nat) (Option.some Jvm.ClassFile.FieldType.char), Jvm.Cond.code ({ cls := "java/lang/String", name := "checkIndex", desc := "(II)V" } : Jvm.MethodName) jdk_42_method_155_code (2 : Nat) (Option.none : Option Jvm.ClassFile.FieldType), Jvm.Cond.code ({ cls := "jdk/internal/util/Preconditions", name := "checkIndex", desc := "(IILjava/util/function/BiFunction;)I" } : Jvm.MethodName) jdk_41_method_11_code (3 : Nat) (Option.some Jvm.ClassFile.FieldType.int), Jvm.Cond.code ({ cls := "com/example/permgrid/permgrid/ControlCharacters", name := "is", desc := "(C)Z" } : Jvm.MethodName) prog_13_method_2_code (1 : Nat) (Option.some Jvm.ClassFile.FieldType.boolean), Jvm.Cond.code ({ cls := "java/lang/StringUTF16", name := "toBytes", desc := "([CII)[B" } : Jvm.MethodName) jdk_52_method_14_code (5 : Nat) (Option.some (Jvm.ClassFile.FieldType.array Jvm.ClassFile.FieldType.byte)), Jvm.Cond.code ({ cls := "java/lang/StringUTF16", name := "newBytesFor", desc := "(I)[B" } : Jvm.MethodName) jdk_52_method_2_code (1 : Nat) (Option.some (Jvm.ClassFile.FieldType.array Jvm.ClassFile.FieldType.byte)), Jvm.Cond.code ({ cls := "java/lang/StringUTF16", name := "newBytesLength", desc := "(I)I" } : Jvm.MethodName) jdk_52_method_3_code (1 : Nat) (Option.some Jvm.ClassFile.FieldType.int), Jvm.Cond.code ({ cls := "java/lang/StringUTF16", name := "putChar", desc := "([BII)V" } : Jvm.MethodName) jdk_52_method_4_code (3 : Nat) (Option.none : Option Jvm.ClassFile.FieldType), Jvm.Cond.code ({ cls := "java/lang/StringUTF16", name := "getChar", desc := "([BI)C" } : Jvm.MethodName) jdk_52_method_5_code (2 : Nat) (Option.some Jvm.ClassFile.FieldType.char), Jvm.Cond.code ({ cls := "java/lang/StringUTF16", name := "charAt", desc := "([BI)C" } : Jvm.MethodName) jdk_52_method_83_code (2 : Nat) (Option.some Jvm.ClassFile.FieldType.char), Jvm.Cond.code ({ cls := "java/lang/StringUTF16", name := "checkIndex", desc := "(I[B)V" } : Jvm.MethodName) jdk_52_method_91_code (2 : Nat) (Option.none : Option Jvm.ClassFile.FieldType), Jvm.Cond.code ({ cls := "java/lang/StringUTF16", name := "length", desc := "([B)I" } : Jvm.MethodName) jdk_52_method_6_code (1 : Nat) (Option.some Jvm.ClassFile.FieldType.int)]
set_option maxRecDepth 65536 in
theorem codes_eq : words1.filter isCode = codes1 := rfl
theorem w_codes : ∀ c ∈ words1.filter isCode, c.before args0 about1 = true := by
  rw [codes_eq]
  intro c hc
  simp only [codes1, List.mem_cons, List.not_mem_nil, or_false] at hc
  rcases hc with rfl | rfl | rfl | rfl | rfl | rfl | rfl | rfl | rfl | rfl | rfl | rfl | rfl | rfl | rfl | rfl | rfl | rfl | rfl | rfl | rfl | rfl | rfl | rfl | rfl
  · exact w_c0
  · exact w_c1
  · exact w_c2
  · exact w_c3
  · exact w_c4
  · exact w_c5
  · exact w_c6
  · exact w_c7
  · exact w_c8
  · exact w_c9
  · exact w_c10
  · exact w_c11
  · exact w_c12
  · exact w_c13
  · exact w_c14
  · exact w_c15
  · exact w_c16
  · exact w_c17
  · exact w_c18
  · exact w_c19
  · exact w_c20
  · exact w_c21
  · exact w_c22
  · exact w_c23
  · exact w_c24
set_option maxRecDepth 65536 in
theorem w_t1 : (words1.take 24).all (fun c => isCode c || c.before args0 about1) = true := by decide +kernel
set_option maxRecDepth 65536 in
theorem w_t2 : ((words1.drop 24).take 24).all (fun c => isCode c || c.before args0 about1) = true := by decide +kernel
set_option maxRecDepth 65536 in
theorem w_t3 : (((words1.drop 24).drop 24).take 24).all (fun c => isCode c || c.before args0 about1) = true := by decide +kernel
set_option maxRecDepth 65536 in
theorem w_t4 : ((((words1.drop 24).drop 24).drop 24).take 24).all (fun c => isCode c || c.before args0 about1) = true := by decide +kernel
set_option maxRecDepth 65536 in
theorem w_t5 : ((((words1.drop 24).drop 24).drop 24).drop 24).all (fun c => isCode c || c.before args0 about1) = true := by decide +kernel
theorem w_tables : (allAtoms (Jvm.Cond.code x code maxLocals ret :: tables_1)).before args0 about1 = true := by
  rw [allAtoms_all]
  show words1.all (fun c => c.before args0 about1) = true
  refine all_split ?_ w_codes
  rw [← List.take_append_drop 24 words1, List.all_append, w_t1, ← List.take_append_drop 24 (words1.drop 24), List.all_append, w_t2, ← List.take_append_drop 24 ((words1.drop 24).drop 24), List.all_append, w_t3, ← List.take_append_drop 24 (((words1.drop 24).drop 24).drop 24), List.all_append, w_t4, w_t5]
  rfl
set_option maxRecDepth 65536 in
theorem w_rest : rest_1_c.before args0 about1 = true := by decide +kernel
set_option maxRecDepth 65536 in
theorem w_case : (Jvm.Cond.and given_1 narrow_1).before args0 about1 = true := by decide +kernel
set_option maxRecDepth 65536 in
theorem w_consts : constsHeld consts_1 about1 := Jvm.Lit.constsHeldB_iff.mp (by decide +kernel)
theorem w_applies : (headSpec (Jvm.Cond.code x code maxLocals ret :: tables_1) room_1).applies x e0.platform about1 = true :=
  (Spec.applies_iff w_frames).mpr ⟨w_running, w_runnable, w_alone, w_named, w_hears, w_ripe, w_room, w_tables⟩
theorem atStart : AtStart classFile x code maxLocals ret World_1 tables_1 room_1 Calls_1 rest_1 Pre_1 launch0 p0 e0 about1 theMethod args0 below0 :=
  ⟨lists_1, trivial, launch0.admits_env _ _ _, launch0.least_env, fairChoices_fair.cas, fairChoices_fair.clock, w_frames, w_args, w_heap, w_applies, ⟨w_consts, trivial⟩, w_rest, w_case⟩
end start1
theorem witness_1 : WitnessClaimed_1 := ⟨start1.p0, start1.e0, start1.about1, start1.theMethod, start1.args0, start1.below0, start1.atStart⟩
end Jvm.Pilot.@@N@@
