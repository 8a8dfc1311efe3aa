import JvmDerived
import JvmDerived.Pilot.@@N@@Statement
import JvmDerived.Pilot.@@N@@Code
set_option linter.unusedVariables false
set_option linter.unusedSimpArgs false
namespace Jvm.Pilot.@@N@@
section FX
open Jvm.FP.Core
def own_C : UInt64 := 4562254508917369340
theorem own_Cv : val64 own_C = .fin false 4611686018427388 (-62) := by decide +kernel
theorem own_zw {i : Int} {s : Bool} {c : Nat} {q : Int} (h : Whole i (.fin s c q)) (f : Jvm.FP.Core.fits b64 (.fin s c q)) : inUnits c q (-1074) = i.natAbs * 2 ^ 1074 := by
  have hq : (-1074 : Int) ≤ q := f.2.1
  have w := whole_units h (e := -1074) hq
  have e1 : ((-1074 : Int)).toNat = 0 := rfl
  have e2 : (-(-1074 : Int)).toNat = 1074 := rfl
  rw [e1, e2] at w
  have w2 := congrArg Int.natAbs w
  rw [Int.natAbs_mul, Int.natAbs_mul, Int.natAbs_natCast, Int.natAbs_natCast, Nat.pow_zero, Nat.mul_one] at w2
  rw [← w2]
  unfold Jvm.FP.Core.signed
  split <;> simp
theorem own_tr (M : Nat) {Q : Int} (h : -1074 ≤ Q) : M * 2 ^ Q.toNat / 2 ^ (-Q).toNat = inUnits M Q (-1074) / 2 ^ 1074 := by
  unfold inUnits
  by_cases hQ : 0 ≤ Q
  · rw [show (-Q).toNat = 0 by omega, show (Q - -1074).toNat = Q.toNat + 1074 by omega, Nat.pow_add, ← Nat.mul_assoc, Nat.mul_div_cancel _ (Nat.two_pow_pos _), Nat.pow_zero, Nat.div_one]
  · rw [show Q.toNat = 0 by omega, Nat.pow_zero, Nat.mul_one]
    have e : (1074 : Nat) = (-Q).toNat + (Q - -1074).toNat := by omega
    generalize (Q - -1074).toNat = x at *
    generalize (-Q).toNat = y at *
    rw [e, Nat.pow_add, Nat.mul_div_mul_right _ _ (Nat.two_pow_pos _)]
theorem own_div {z T : Nat} (h1 : T * 2 ^ 1074 ≤ z) (h2 : z ≤ (T + 1) * 2 ^ 1074) : z / 2 ^ 1074 = T ∨ z / 2 ^ 1074 = T + 1 := by
  have a : T ≤ z / 2 ^ 1074 := (Nat.le_div_iff_mul_le (Nat.two_pow_pos _)).mpr h1
  have b : z / 2 ^ 1074 ≤ T + 1 := by
    have := Nat.div_le_div_right (c := 2 ^ 1074) h2
    rwa [Nat.mul_div_cancel _ (Nat.two_pow_pos _)] at this
  generalize z / 2 ^ 1074 = w at *
  omega
theorem own_V (T : Nat) (h : T ≤ 2 ^ 31) : ∃ V : Datum, Jvm.FP.Core.fits b64 V ∧ V ≠ .nan ∧ zmag b64 V = T * 2 ^ 1074 := by
  have hr : (Int64.ofNat T).toInt = T := Int64.toInt_ofNat_of_lt (by omega)
  have w : DInt (Int64.ofNat T).toInt (Jvm.FP.Core.l2d (Int64.ofNat T)) := l2d_int (by rw [hr]; simp; omega)
  have f := val64_fits (Jvm.FP.Core.l2d (Int64.ofNat T))
  unfold DInt at w
  generalize val64 (Jvm.FP.Core.l2d (Int64.ofNat T)) = V at w f
  refine ⟨V, f, ?_, ?_⟩
  · intro e; rw [e] at w; exact w.elim
  · cases V with
    | nan => exact w.elim
    | inf => exact w.elim
    | fin s c q =>
      show inUnits c q b64.qmin = _
      rw [show b64.qmin = -1074 from by decide, own_zw w f, hr]; simp
theorem own_R {n : Int64} (h : n.toInt.natAbs ≤ 2 ^ 30) (h0 : n ≠ 0) : ∃ (s : Bool) (M : Nat) (Q : Int), val64 (Jvm.FP.Core.dmul (Jvm.FP.Core.l2d n) own_C) = .fin s M Q ∧ s = decide (n.toInt < 0) ∧ -1074 ≤ Q ∧ (inUnits M Q (-1074) / 2 ^ 1074 = n.toInt.natAbs / 1000 ∨ inUnits M Q (-1074) / 2 ^ 1074 = n.toInt.natAbs / 1000 + 1) := by
  have w : DInt n.toInt (Jvm.FP.Core.l2d n) := l2d_int (by omega)
  have f := val64_fits (Jvm.FP.Core.l2d n)
  have hn : n.toInt ≠ 0 := fun q => h0 (Int64.toInt_inj.mp q)
  unfold DInt at w
  rw [val64_dmul, own_Cv]
  generalize val64 (Jvm.FP.Core.l2d n) = D at w f
  cases D with
  | nan => exact w.elim
  | inf => exact w.elim
  | fin s c q =>
    have hs := whole_sign w hn
    have zw := own_zw w f
    have hq : (-1074 : Int) ≤ q := f.2.1
    have hm : b64.qmin = -1074 := by decide
    simp only [exactProduct, Jvm.FP.Core.round]
    have eA : inUnits (c * 4611686018427388) (q + -62) (-1136) = n.toInt.natAbs * 4611686018427388 * 2 ^ 1074 := by
      have : inUnits (c * 4611686018427388) (q + -62) (-1136) = inUnits c q (-1074) * 4611686018427388 := by
        unfold inUnits
        rw [show (q + -62 - -1136).toNat = (q - -1074).toNat by omega, Nat.mul_right_comm]
      rw [this, zw, Nat.mul_right_comm]
    generalize n.toInt.natAbs = a at *
    obtain ⟨V0, f0, n0, z0⟩ := own_V (a / 1000) (by omega)
    obtain ⟨V1, f1, n1, z1⟩ := own_V (a / 1000 + 1) (by omega)
    have p62 : (2 : Nat) ^ (b64.qmin - (-1136)).toNat = 4611686018427387904 := by rw [hm]; decide
    have le : zmag b64 (roundRatio b64 (s != false) (c * 4611686018427388) 1 (q + -62)) ≤ zmag b64 V1 := by
      refine zmag_roundRatio_le good_b64 (by decide) f1 n1 (e0 := -1136) (by rw [hm]; omega) (by omega) ?_
      rw [eA, z1, p62, Nat.mul_one, Nat.mul_right_comm _ (2 ^ 1074)]
      exact Nat.mul_le_mul_right _ (by omega)
    have ge : zmag b64 V0 ≤ zmag b64 (roundRatio b64 (s != false) (c * 4611686018427388) 1 (q + -62)) := by
      refine zmag_roundRatio_ge good_b64 (by decide) f0 (e0 := -1136) (by rw [hm]; omega) (by omega) ?_
      rw [eA, z0, p62, Nat.mul_one, Nat.mul_right_comm _ (2 ^ 1074)]
      exact Nat.mul_le_mul_right _ (by omega)
    rw [z1] at le
    rw [z0] at ge
    have fr := roundRatio_fits good_b64 (s != false) (c * 4611686018427388) (B := 1) (by decide) (q + -62)
    rcases roundRatio_cases b64 (s != false) (c * 4611686018427388) 1 (q + -62) with ⟨M, Q, hR⟩ | hR
    · rw [hR] at le ge fr ⊢
      have hQ : (-1074 : Int) ≤ Q := fr.2.1
      have ze : zmag b64 (.fin (s != false) M Q) = inUnits M Q (-1074) := by show inUnits M Q b64.qmin = _; rw [hm]
      rw [ze] at le ge
      exact ⟨_, M, Q, rfl, by rw [hs]; cases decide (n.toInt < 0) <;> rfl, hQ, own_div ge le⟩
    · exfalso
      rw [hR] at le
      have t1 : b64.tails = 2 ^ 52 := by decide
      have t2 : b64.exps - 2 = 2046 := by decide
      have ze : zmag b64 (.inf (s != false)) = 2 ^ 52 * 2 ^ 2046 := by
        show b64.tails * 2 ^ (b64.exps - 2) = _
        rw [t1, t2]
      rw [ze, ← Nat.pow_add] at le
      have b1 : (a / 1000 + 1) * 2 ^ 1074 ≤ 2 ^ 31 * 2 ^ 1074 := Nat.mul_le_mul_right _ (by omega)
      rw [← Nat.pow_add] at b1
      have := Nat.pow_lt_pow_right (a := 2) (by decide) (show 31 + 1074 < 52 + 2046 by decide)
      omega
theorem own_fx {n : Int64} (h : n.toInt.natAbs ≤ 2 ^ 30) (h0 : n ≠ 0) : ∃ W : Nat, (W = n.toInt.natAbs / 1000 ∨ W = n.toInt.natAbs / 1000 + 1) ∧ (Jvm.FP.Core.d2l (Jvm.FP.Core.dmul (Jvm.FP.Core.l2d n) own_C)).toInt = if n.toInt < 0 then -(W : Int) else (W : Int) := by
  obtain ⟨s, M, Q, e, hs, hQ, hW⟩ := own_R h h0
  refine ⟨_, hW, ?_⟩
  show (Int64.ofInt (Jvm.FP.Core.toInt (-2 ^ 63) (2 ^ 63 - 1) (val64 (Jvm.FP.Core.dmul (Jvm.FP.Core.l2d n) own_C)))).toInt = _
  rw [e]
  simp only [Jvm.FP.Core.toInt, Jvm.FP.Core.truncate]
  rw [own_tr M hQ]
  generalize inUnits M Q (-1074) / 2 ^ 1074 = W at *
  generalize n.toInt.natAbs = a at *
  have hb : W ≤ 2000000 := by omega
  have sg : Jvm.FP.Core.signed s W = if n.toInt < 0 then -(W : Int) else (W : Int) := by
    unfold Jvm.FP.Core.signed; rw [hs]; by_cases q : n.toInt < 0 <;> simp [q]
  rw [sg]
  have r : ∀ z : Int, -2000000 ≤ z → z ≤ 2000000 → (Int64.ofInt (max (-2 ^ 63) (min (2 ^ 63 - 1) z))).toInt = z := by
    intro z z1 z2
    rw [show max (-2 ^ 63) (min (2 ^ 63 - 1) z) = z by omega]
    exact Int64.toInt_ofInt_of_le (by omega) (by omega)
  exact r _ (by split <;> omega) (by split <;> omega)
theorem own_fx0 : Jvm.FP.Core.d2l (Jvm.FP.Core.dmul (Jvm.FP.Core.l2d 0) own_C) = 0 := by decide +kernel
theorem own_nn {n : Int64} (h : n.toInt.natAbs ≤ 2 ^ 30) : val64 (Jvm.FP.Core.dmul (Jvm.FP.Core.l2d n) own_C) ≠ .nan := by
  by_cases h0 : n = 0
  · subst h0; decide +kernel
  · obtain ⟨s, M, Q, e, -⟩ := own_R h h0
    rw [e]; exact Datum.noConfusion
end FX
open Jvm Jvm.ClassFile Sem Op Lib Jvm.Free Jvm.Stand Jvm.LawKit Jvm.RoadKit Bundle Jvm.Pilot.@@N@@.Jvm.D
theorem own_w (i : Nat) {d : Jvm.Cond} (h : tables_1[i]? = some d) : d ∈ tables_1 := List.mem_of_getElem? h
def own_Go (p : Program) (e : Env) (below : List Frame) (A B : State) : Prop := ∀ t, Steps p.tables e below B t → Steps p.tables e below A t
abbrev own_top {p : Program} {e : Env} {below : List Frame} {A T : State} {g : JFrame} (_ : own_Go p e below A (T.setTop g)) : JFrame := g
section OwnKit
variable {p : Program} {l : Launch} {e : Env} {R : Room} {s : State} {m : MethodId} {args : Array Value} {below : List Frame} {meth : Method} {c : Code} {T : State} {locs : List Loc} {cells slots : Nat}
theorem retI (X : Stand p l e R s m args below meth c T locs cells slots) (hx : p.tables.exec = Jvm.exec) {pc : Nat} {Ls : Array Slot} {z : Int32} {rest : List Value} (hret : meth.sig.returnType = some .int) (hd : decode c.code pc = .ok (.ireturn, 1)) {fs : List Frame}
    (hl : ∀ (f : JFrame) (acts : List Action), f.method = m → f.locked = none → f.entered = [] → (doReturn e (T.setTop f) acts (some (.int z))).1 = T.setFrames fs) : Steps p.tables e below (T.setTop (mkF m pc Ls (.int z :: rest))) (T.setFrames fs) :=
  retOut X hx hret rfl (Or.inl ⟨rfl, Or.inl rfl, z, rfl⟩) hd hl
theorem own_retR (X : Stand p l e R s m args below meth c T locs cells slots) (hx : p.tables.exec = Jvm.exec) {pc : Nat} {Ls : Array Slot} {w : Value} {t : FieldType} {rest : List Value} (hret : meth.sig.returnType = some t) (ht : t.isReference = true) (hw : w.isRef = true) (hd : decode c.code pc = .ok (.areturn, 1)) {fs : List Frame}
    (hl : ∀ (f : JFrame) (acts : List Action), f.method = m → f.locked = none → f.entered = [] → (doReturn e (T.setTop f) acts (some w)).1 = T.setFrames fs) : Steps p.tables e below (T.setTop (mkF m pc Ls (w :: rest))) (T.setFrames fs) :=
  retOut X hx hret (by cases t <;> cases w <;> simp_all [FieldType.isReference, Value.isRef, narrow]) (Or.inr (Or.inr (Or.inr (Or.inr ⟨rfl, ht, hw⟩)))) hd hl
end OwnKit

theorem own_eqI {args : Array Value} {first s : State} {o : Option Outcome} {idx : List Nat} {t : Term} {k : Int32} (h : (Jvm.Cond.eq t (.int k)).value args first o s idx = some true) : t.eval args first o idx s = some (.int k) := by
  obtain ⟨x, y, h1, h2, h3, h4⟩ := cmp_v (Or.inl h)
  obtain rfl : y = .int k := by simpa [Term.eval] using h2.symm
  obtain ⟨z, rfl⟩ := h4
  simp [Cond.value, h1, h2] at h
  subst h
  exact h1

section OwnRef
variable {p : Program} {l : Launch} {e : Env} {R : Room} {s : State} {m : MethodId} {args : Array Value} {below : List Frame} {meth : Method} {c : Code} {T : State} {locs : List Loc} {cells slots : Nat}
theorem own_initRef {tb : Tables} [Ours tb] {Z U : State} {mm : MethodId} {cc : Code} (h : At U mm cc below) (hexec : tb.exec = Jvm.exec) (hZ : Z.Warmed39 s.vm) (hW : s.WarmedH U.vm) {own : String} (hown : s.vm.findClass own = some mm.cls) {idx : Nat} {t : MethodName} (ht1 : t.name = "<init>")
    (hnot : t.cls ≠ "java/lang/invoke/MethodHandle" ∧ t.cls ≠ "java/lang/invoke/VarHandle") {a0 args' : Array Value} {bytes : ByteArray} {maxL : Nat}
    (hlink : (Jvm.Cond.methodRef own idx t).before a0 Z = true) (hinst : (Jvm.Cond.instanceMethod t).before args' s = true) (hcode : (Jvm.Cond.code t bytes maxL none).before args' s = true)
    {f : JFrame} (hf : f.method = mm) {a : Addr} {argsL rest : List Value} (hlen : ∀ sig, parseMethodDescriptor t.desc = some sig → argsL.length = sig.parameters.length) (hstack : f.stack = argsL.reverse ++ .ref a :: rest) (hd : decode cc.code f.pc = .ok (.invokespecial idx, 3)) :
    ∃ tm, s.methodNamed? t = some tm ∧ ∀ target, (∀ acts, Steps tb e below (doInvoke e ((U.setVm U.vm).setTop { f with stack := rest }) acts tm (.ref a :: argsL).toArray).1 target) → Steps tb e below (U.setTop f) target := by
  subst hf
  obtain ⟨obj, methO, hnO, hmO, hstO, habO⟩ := Cond.instanceMethod_spec hinst
  obtain ⟨methO', cO, hmO', hcO, hbO, hlO, -, hlockO, -, hsigO⟩ := Cond.code_spec hnO hcode
  cases hmO.symm.trans hmO'
  obtain ⟨kO, hkO, hnameO⟩ := className_of_methodNamed hnO
  obtain ⟨hnameMO, hdescO⟩ := name_of_methodNamed hnO hmO
  have hZU : Z.Warmed39 U.vm := wtrans hZ hW
  have hnZ : Z.methodNamed? t = some obj := by rw [← State.methodNamed?_setVm hZ.alike]; exact hnO
  have hnU : (Z.setVm U.vm).methodNamed? t = some obj := by rw [State.methodNamed?_setVm hZU.alike]; exact hnZ
  have hrefU := Cond.methodRef_warmed39 hZU hnZ hnot hlink
  have hcur : (Z.setVm U.vm).vm.findClass own = some f.method.cls := by
    rw [show (Z.setVm U.vm).vm = U.vm from rfl, hW.alike.findClass]; exact hown
  obtain ⟨r, c', hfr, hready, hfind, hnames⟩ := Cond.methodRef_named e hcur hrefU
  cases hfr.symm.trans (State.methodFound?_of_named hnU hnot)
  cases hfind.symm.trans (findClass_of_methodNamed hnU)
  obtain ⟨kO₂, hkO₂, heO₂⟩ := hW.alike.2.2 _ _ hkO
  have hmO₂ : U.vm.method? obj = some methO := by rw [hW.alike.method?]; exact hmO
  have hfound : lookupSpecial U.vm obj.cls "<init>" methO.desc = .method obj := by
    rw [hW.alike.lookupSpecial, hdescO, ← ht1]; exact lookupSpecial_of_named hnO hmO hstO
  refine ⟨obj, hnO, fun target hrest => ?_⟩
  have hrest' : ∀ acts, Steps tb e below (doInvoke e (U.setTop { f with stack := rest }) acts obj (.ref a :: argsL).toArray).1 target := hrest
  jvm_step h [hexec, hd, invokespecial.wp_init (e := e) (s := U) (k := kO₂) (meth := methO) (m := obj) (a := a) (args := argsL) (rest := rest) (f := f)
      h.top hnames hready hkO₂ hmO₂ (by rw [hnameMO]; exact ht1) hstO habO hfound (hlen _ hsigO) hstack]
  exact hrest'
theorem own_specialRef {Z : State} {a0 : Array Value} (X : Stand p l e R s m args below meth c T locs cells slots) (hexec : p.tables.exec = Jvm.exec) (hZ : Z.Warmed39 s.vm) {own : String} {index : Nat} {y : MethodName} (hy1 : y.name = "<init>")
    (hown : s.vm.findClass own = some m.cls) (hlink : (Jvm.Cond.methodRef own index y).before a0 Z = true) (hinst : (Jvm.Cond.instanceMethod y).before args s = true)
    {bytes : ByteArray} {maxL : Nat} (hcode : (Jvm.Cond.code y bytes maxL none).before args s = true)
    (hy : y.cls ≠ "java/lang/invoke/MethodHandle" ∧ y.cls ≠ "java/lang/invoke/VarHandle")
    {W : Nat} {Pre : Pt → Array Value → Prop} {Post : Pt → Array Value → Option Value → Pt → Prop} (hK : Back l R p e below s args y 3 W Pre Post)
    {g : JFrame} (hg : g.method = m) (hsize : g.locals.size = c.maxLocals) {a : Addr} {argsL rest : List Value}
    (hlen : ∀ sig, parseMethodDescriptor y.desc = some sig → argsL.length = sig.parameters.length) (hstack : g.stack = argsL.reverse ++ .ref a :: rest) (hW : 2 * g.monitorRoom + (rest.map fun v => v.category).sum ≤ W)
    (hdg : decode c.code g.pc = .ok (.invokespecial index, 3)) (hpre : ∀ vm₁, s.WarmedH vm₁ → Pre ⟨T.setVm vm₁, locs, cells, slots⟩ (.ref a :: argsL).toArray) :
    ∃ (v : Option Value) (vm₁ : Vm) (B : Pt), s.WarmedH vm₁ ∧ Stand p l e R s m args below meth c B.U B.locs B.cells B.slots ∧ Post ⟨T.setVm vm₁, locs, cells, slots⟩ (.ref a :: argsL).toArray v B ∧
      Steps p.tables e below (T.setTop g) (B.U.setTop { g with pc := g.pc + 3, stack := v.toList ++ rest }) := by
  obtain ⟨mk, hnamed, hstep⟩ := own_initRef (e := e) X.here hexec hZ X.warmed hown hy1 hy hlink hinst hcode (f := g) hg hlen hstack hdg
  have X₁ := X.noted X.warmed
  obtain ⟨v, B, X', hpost, hsteps⟩ := hK m meth c ⟨T.setVm T.vm, locs, cells, slots⟩ { g with stack := rest } (.invokespecial index) mk (.ref a :: argsL).toArray X₁ hg hsize hdg hW (X₁.named hnamed) (hpre T.vm X.warmed)
  exact ⟨v, T.vm, B, X.warmed, X', hpost, (hstep _ fun acts => by rw [doInvoke_state]; exact Steps.refl _).trans hsteps⟩
end OwnRef

theorem d6_0 : decode jdk_30_method_1_code 0 = .ok (.aload_n 0, 1) := by decide +kernel
theorem d6_1 : decode jdk_30_method_1_code 1 = .ok (.invokespecial 1, 3) := by decide +kernel
theorem d6_4 : decode jdk_30_method_1_code 4 = .ok (.return_, 1) := by decide +kernel
theorem pn_6 : plainName "java/lang/Record" = true := by first | (simp [plainName, overriddenIn]; done) | decide +kernel
theorem ef_6 (m : MethodId) (x0 : Addr) : entryFrame m #[(.ref x0)] 1 = mkF m 0 #[.val (.ref x0)] [] := by first | (simp [entryFrame, mkF, argsToLocals, Value.category]; done) | rfl
def Q6 (Z : State) (a1 : Addr) (h0 : Heap) (n0 : Nat) (v : Option Value) (h : Heap) (L : List Loc) : Prop := v = none ∧ Fr n0 L ∧ h = h0
set_option maxRecDepth 65536 in
set_option maxHeartbeats 40000000 in
theorem rm6 (l : Launch) (Z : State) (a0 : Array Value) (hw : ∀ d ∈ tables_1, d.before a0 Z = true) (ws : List Jvm.Cond) (a1 : Addr) (h0 : Heap) (n0 : Nat) (Z0 : n0 ≤ h0.size) :
    MetFree l (⟨"java/lang/Record", "<init>", "()V"⟩ : MethodName) (head1 (Jvm.Cond.code (⟨"java/lang/Record", "<init>", "()V"⟩ : MethodName) jdk_30_method_1_code 1 none :: ws) ({ frames := 1, cells := 0, slots := 0, locals := 12 } : Room)) (fun a U => a = #[(.ref a1)] ∧ Z.Warmed39 U.vm ∧ U.heap = h0) (fun _ _ _ _ _ => True) (fun _ U o U' => ∃ v L, o = .returned v ∧ Q6 Z a1 h0 n0 v U'.heap L ∧ FrameEnd U o U' L ({ frames := 1, cells := 0, slots := 0, locals := 12 } : Room).cells ({ frames := 1, cells := 0, slots := 0, locals := 12 } : Room).slots) := by
  refine MetFree.of_bodySF (plainFor_of_name pn_6) hisR ?_
  intro p e s m args below meth c s₁ Bd hml0 hP hK
  obtain ⟨rfl, hZ, hh⟩ := hP
  have hx := Bd.exec
  have hby := Bd.bytes
  have hml : c.maxLocals = 1 := hml0
  have hown0 := findClass_of_methodNamed Bd.named
  have hown : s.vm.findClass "java/lang/Record" = some m.cls := hown0
  have hnm := (name_of_methodNamed Bd.named Bd.method).1
  have X0 : Stand p l e ({ frames := 1, cells := 0, slots := 0, locals := 12 } : Room) s m #[(.ref a1)] below meth c s₁ [] 0 0 := Stand.of_body Bd
  have e0 : s₁.heap = h0 := by rw [← hh, Bd.state]; rfl
  have N0 := Fr.nil n0
  obtain ⟨S0, hS0⟩ : ∃ z, z = s₁.setTop (entryFrame m #[(.ref a1)] 1) := ⟨_, rfl⟩
  have pre0 : own_Go p e below S0 (s₁.setTop (mkF m 0 #[.val (.ref a1)] [])) := fun t k => by rw [hS0]; exact castTop (ef_6 m a1) k
  have fin : ∀ t, Steps p.tables e below S0 t → Steps p.tables e below (s₁.setTop (entryFrame m #[(.ref a1)] 1)) t := fun t k => by rw [hS0] at k; exact k
  have pre1 : own_Go p e below S0 (s₁.setTop (mkF m 1 #[.val (.ref a1)] [(.ref a1)])) := by
    intro t kt
    refine pre0 t ?_
    refine XS.aloadN X0.here hx rfl (hb hby d6_0) rfl rfl ?_
    show Steps p.tables e below (s₁.setTop (mkF m 1 #[.val (.ref a1)] [(.ref a1)])) _
    exact kt
  obtain ⟨T2, X2, e2, st2⟩ := initO X0 hx hZ hown (hw _ (own_w 33 rfl)) (hw _ (own_w 14 rfl)) (hw _ (own_w 15 rfl)) e0 (g := (mkF m 1 #[.val (.ref a1)] [(.ref a1)])) rfl (by rw [hml]; rfl) rfl (hb hby d6_1) (by decide) (W := 0) (by show 2 * 0 + _ ≤ _; exact Nat.le_of_eq rfl) (by decide)
  have pre3 : own_Go p e below S0 (T2.setTop (mkF m 4 #[.val (.ref a1)] [])) := by
    intro t kt
    refine pre1 t ?_
    refine st2 _ ?_
    show Steps p.tables e below (T2.setTop (mkF m 4 #[.val (.ref a1)] [])) _
    exact kt
  obtain ⟨fs, hr, hrun, hended, hW, hsame⟩ := X2.leave (v := none) (fun _ => rfl)
  refine ⟨_, _, fin _ (pre3 _ ?_), hrun, hended, _, _, rfl, ?_, ⟨_, rfl⟩, hW, hsame.mono (by decide) (by decide)⟩
  · exact X2.returnOut hx Bd.returns (hb hby d6_4) hr
  · show Q6 Z a1 h0 n0 _ T2.heap _
    rw [e2]
    exact ⟨rfl, N0, rfl⟩

theorem d5_0 : decode prog_2_method_1_code 0 = .ok (.aload_n 0, 1) := by decide +kernel
theorem d5_1 : decode prog_2_method_1_code 1 = .ok (.invokespecial 3, 3) := by decide +kernel
theorem d5_4 : decode prog_2_method_1_code 4 = .ok (.aload_n 0, 1) := by decide +kernel
theorem d5_5 : decode prog_2_method_1_code 5 = .ok (.lload_n 1, 1) := by decide +kernel
theorem d5_6 : decode prog_2_method_1_code 6 = .ok (.putfield 9, 3) := by decide +kernel
theorem d5_9 : decode prog_2_method_1_code 9 = .ok (.aload_n 0, 1) := by decide +kernel
theorem d5_10 : decode prog_2_method_1_code 10 = .ok (.lload_n 3, 1) := by decide +kernel
theorem d5_11 : decode prog_2_method_1_code 11 = .ok (.putfield 15, 3) := by decide +kernel
theorem d5_14 : decode prog_2_method_1_code 14 = .ok (.aload_n 0, 1) := by decide +kernel
theorem d5_15 : decode prog_2_method_1_code 15 = .ok (.lload 5, 2) := by decide +kernel
theorem d5_17 : decode prog_2_method_1_code 17 = .ok (.putfield 18, 3) := by decide +kernel
theorem d5_20 : decode prog_2_method_1_code 20 = .ok (.return_, 1) := by decide +kernel
theorem pn_5 : plainName "com/example/backplane/backplane/ClusterClock$Sample" = true := by first | (simp [plainName, overriddenIn]; done) | decide +kernel
theorem pd_0 : parseMethodDescriptor "()V" = some ⟨[], none⟩ := by decide +kernel
theorem ef_5 (m : MethodId) (x0 : Addr) (x1 : Int64) (x2 : Int64) (x3 : Int64) : entryFrame m #[(.ref x0), (.long x1), (.long x2), (.long x3)] 7 = mkF m 0 #[.val (.ref x0), .val (.long x1), .second, .val (.long x2), .second, .val (.long x3), .second] [] := by first | (simp [entryFrame, mkF, argsToLocals, Value.category]; done) | rfl
def Q5 (Z : State) (a1 : Addr) (q2 : Int64) (q3 : Int64) (q4 : Int64) (h0 : Heap) (n0 : Nat) (v : Option Value) (h : Heap) (L : List Loc) : Prop := v = none ∧ Fr n0 L ∧ Keep h0 h [a1] ∧ Exa Z h a1 "com/example/backplane/backplane/ClusterClock$Sample" ∧ Fld Z h a1 "com/example/backplane/backplane/ClusterClock$Sample" "clusterMs" "J" (.long q2) ∧ Fld Z h a1 "com/example/backplane/backplane/ClusterClock$Sample" "atNanos" "J" (.long q3) ∧ Fld Z h a1 "com/example/backplane/backplane/ClusterClock$Sample" "errorNanos" "J" (.long q4)
set_option maxRecDepth 65536 in
set_option maxHeartbeats 40000000 in
theorem rm5 (l : Launch) (Z : State) (a0 : Array Value) (hw : ∀ d ∈ tables_1, d.before a0 Z = true) (ws : List Jvm.Cond) (a1 : Addr) (q2 : Int64) (q3 : Int64) (q4 : Int64) (h0 : Heap) (n0 : Nat) (Z0 : n0 ≤ h0.size) (pE1 : Exa Z h0 a1 "com/example/backplane/backplane/ClusterClock$Sample") (pg1 : n0 ≤ a1) (pF0 : Fld Z h0 a1 "com/example/backplane/backplane/ClusterClock$Sample" "clusterMs" "J" (.long (0 : Int64))) (pF1 : Fld Z h0 a1 "com/example/backplane/backplane/ClusterClock$Sample" "atNanos" "J" (.long (0 : Int64))) (pF2 : Fld Z h0 a1 "com/example/backplane/backplane/ClusterClock$Sample" "errorNanos" "J" (.long (0 : Int64))) :
    MetFree l (⟨"com/example/backplane/backplane/ClusterClock$Sample", "<init>", "(JJJ)V"⟩ : MethodName) (head1 (Jvm.Cond.code (⟨"com/example/backplane/backplane/ClusterClock$Sample", "<init>", "(JJJ)V"⟩ : MethodName) prog_2_method_1_code 7 none :: ws) ({ frames := 2, cells := 0, slots := 0, locals := 24 } : Room)) (fun a U => a = #[(.ref a1), (.long q2), (.long q3), (.long q4)] ∧ Z.Warmed39 U.vm ∧ U.heap = h0) (fun _ _ _ _ _ => True) (fun _ U o U' => ∃ v L, o = .returned v ∧ Q5 Z a1 q2 q3 q4 h0 n0 v U'.heap L ∧ FrameEnd U o U' L ({ frames := 2, cells := 0, slots := 0, locals := 24 } : Room).cells ({ frames := 2, cells := 0, slots := 0, locals := 24 } : Room).slots) := by
  refine MetFree.of_bodySF (plainFor_of_name pn_5) hisR ?_
  intro p e s m args below meth c s₁ Bd hml0 hP hK
  obtain ⟨rfl, hZ, hh⟩ := hP
  have hx := Bd.exec
  have hby := Bd.bytes
  have hml : c.maxLocals = 7 := hml0
  have hown0 := findClass_of_methodNamed Bd.named
  have hown : s.vm.findClass "com/example/backplane/backplane/ClusterClock$Sample" = some m.cls := hown0
  have hnm := (name_of_methodNamed Bd.named Bd.method).1
  have X0 : Stand p l e ({ frames := 2, cells := 0, slots := 0, locals := 24 } : Room) s m #[(.ref a1), (.long q2), (.long q3), (.long q4)] below meth c s₁ [] 0 0 := Stand.of_body Bd
  have e0 : s₁.heap = h0 := by rw [← hh, Bd.state]; rfl
  have N0 := Fr.nil n0
  obtain ⟨S0, hS0⟩ : ∃ z, z = s₁.setTop (entryFrame m #[(.ref a1), (.long q2), (.long q3), (.long q4)] 7) := ⟨_, rfl⟩
  have pre0 : own_Go p e below S0 (s₁.setTop (mkF m 0 #[.val (.ref a1), .val (.long q2), .second, .val (.long q3), .second, .val (.long q4), .second] [])) := fun t k => by rw [hS0]; exact castTop (ef_5 m a1 q2 q3 q4) k
  have fin : ∀ t, Steps p.tables e below S0 t → Steps p.tables e below (s₁.setTop (entryFrame m #[(.ref a1), (.long q2), (.long q3), (.long q4)] 7)) t := fun t k => by rw [hS0] at k; exact k
  have kc0 : Keep h0 h0 [a1] := Keep.refl _ _
  have pre1 : own_Go p e below S0 (s₁.setTop (mkF m 1 #[.val (.ref a1), .val (.long q2), .second, .val (.long q3), .second, .val (.long q4), .second] [(.ref a1)])) := by
    intro t kt
    refine pre0 t ?_
    refine XS.aloadN X0.here hx rfl (hb hby d5_0) rfl rfl ?_
    show Steps p.tables e below (s₁.setTop (mkF m 1 #[.val (.ref a1), .val (.long q2), .second, .val (.long q3), .second, .val (.long q4), .second] [(.ref a1)])) _
    exact kt
  obtain ⟨_, _, ⟨T2, L2, k2, n2⟩, -, X2, ⟨Lc2, hQ2, l2, y2, z2⟩, st2⟩ := X0.specialBack hx (y := (⟨"java/lang/Record", "<init>", "()V"⟩ : MethodName)) rfl hown (mvT hZ (hw _ (own_w 28 rfl))) (mvT hZ (hw _ (own_w 29 rfl))) (mvT hZ (hw _ (own_w 32 rfl))) (by decide) (backOf (W := 0) (rm6 l Z a0 hw [] a1 h0 n0 Z0 ) hZ (hw _ (own_w 32 rfl)) (hw _ (own_w 31 rfl)) (by decide) (by decide)) (g := (mkF m 1 #[.val (.ref a1), .val (.long q2), .second, .val (.long q3), .second, .val (.long q4), .second] [(.ref a1)])) rfl (by rw [hml]; rfl) (Steps.refl _) (a := a1) (argsL := []) (rest := []) (lenOf pd_0 rfl) rfl (by show 2 * 0 + _ ≤ _; exact Nat.le_of_eq rfl) (hb hby d5_1) (fun _ _ => ⟨rfl, e0, (by decide : 0 + 0 ≤ _), (by decide : 0 + 0 ≤ _)⟩)
  dsimp only [Pt.U, Pt.locs, Pt.cells, Pt.slots] at X2 l2 y2 z2 st2 hQ2
  subst l2 y2 z2
  obtain ⟨rfl, Nq2, eq2⟩ := hQ2
  have N2 := Fr.app N0 Nq2
  have pre3 : own_Go p e below S0 (T2.setTop (mkF m 6 #[.val (.ref a1), .val (.long q2), .second, .val (.long q3), .second, .val (.long q4), .second] [(.long q2), (.ref a1)])) := by
    intro t kt
    refine pre1 t ?_
    refine st2.trans ?_
    show Steps p.tables e below (T2.setTop (mkF m 4 #[.val (.ref a1), .val (.long q2), .second, .val (.long q3), .second, .val (.long q4), .second] [])) _
    refine XS.aloadN X2.here hx rfl (hb hby d5_4) rfl rfl ?_
    show Steps p.tables e below (T2.setTop (mkF m 5 #[.val (.ref a1), .val (.long q2), .second, .val (.long q3), .second, .val (.long q4), .second] [(.ref a1)])) _
    refine XS.lloadN X2.here hx rfl (hb hby d5_5) rfl ?_
    show Steps p.tables e below (T2.setTop (mkF m 6 #[.val (.ref a1), .val (.long q2), .second, .val (.long q3), .second, .val (.long q4), .second] [(.long q2), (.ref a1)])) _
    exact kt
  obtain ⟨T4, h4, X4, e4, W4, st4⟩ := putF X2 hx hZ hown (host := "") (Or.inl (hw _ (own_w 34 rfl))) Via.refl eq2 pF0 pE1 (Or.inr ⟨(hw _ (own_w 35 rfl)), rfl, hnm⟩) (hw _ (own_w 23 rfl)) (ty := .long) (by decide) rfl rfl (g := (mkF m 6 #[.val (.ref a1), .val (.long q2), .second, .val (.long q3), .second, .val (.long q4), .second] [(.long q2), (.ref a1)])) rfl rfl (hb hby d5_6)
  have N4 := Fr.snoc X4 N2 pg1
  have zs5 : n0 ≤ h4.size := Nat.le_trans Z0 (Keep.of_wr W4).1
  have kc6 : Keep h0 h4 [a1] := kc0.wr W4 (Or.inl (List.mem_of_getElem? (i := 0) rfl))
  have fw4 : Fld Z h4 a1 "com/example/backplane/backplane/ClusterClock$Sample" "clusterMs" "J" (.long q2) := pF0.same W4
  have pre7 : own_Go p e below S0 (T4.setTop (mkF m 11 #[.val (.ref a1), .val (.long q2), .second, .val (.long q3), .second, .val (.long q4), .second] [(.long q3), (.ref a1)])) := by
    intro t kt
    refine pre3 t ?_
    refine st4 _ ?_
    show Steps p.tables e below (T4.setTop (mkF m 9 #[.val (.ref a1), .val (.long q2), .second, .val (.long q3), .second, .val (.long q4), .second] [])) _
    refine XS.aloadN X4.here hx rfl (hb hby d5_9) rfl rfl ?_
    show Steps p.tables e below (T4.setTop (mkF m 10 #[.val (.ref a1), .val (.long q2), .second, .val (.long q3), .second, .val (.long q4), .second] [(.ref a1)])) _
    refine XS.lloadN X4.here hx rfl (hb hby d5_10) rfl ?_
    show Steps p.tables e below (T4.setTop (mkF m 11 #[.val (.ref a1), .val (.long q2), .second, .val (.long q3), .second, .val (.long q4), .second] [(.long q3), (.ref a1)])) _
    exact kt
  have f8 : Fld Z h4 a1 "com/example/backplane/backplane/ClusterClock$Sample" "atNanos" "J" (.long (0 : Int64)) := (pF1.other W4 (Or.inr (slot_ne (Or.inr (hw _ (own_w 37 rfl))) (Or.inr (hw _ (own_w 35 rfl))) (by decide) (t := .long) (t' := .long) (by decide) (by decide))))
  have f9 : Exa Z h4 a1 "com/example/backplane/backplane/ClusterClock$Sample" := (pE1.wr W4)
  obtain ⟨T10, h10, X10, e10, W10, st10⟩ := putF X4 hx hZ hown (host := "") (Or.inl (hw _ (own_w 36 rfl))) Via.refl e4 f8 f9 (Or.inr ⟨(hw _ (own_w 37 rfl)), rfl, hnm⟩) (hw _ (own_w 23 rfl)) (ty := .long) (by decide) rfl rfl (g := (mkF m 11 #[.val (.ref a1), .val (.long q2), .second, .val (.long q3), .second, .val (.long q4), .second] [(.long q3), (.ref a1)])) rfl rfl (hb hby d5_11)
  have N10 := Fr.snoc X10 N4 pg1
  have zs11 : n0 ≤ h10.size := Nat.le_trans zs5 (Keep.of_wr W10).1
  have kc12 : Keep h0 h10 [a1] := kc6.wr W10 (Or.inl (List.mem_of_getElem? (i := 0) rfl))
  have fw10 : Fld Z h10 a1 "com/example/backplane/backplane/ClusterClock$Sample" "atNanos" "J" (.long q3) := f8.same W10
  have pre13 : own_Go p e below S0 (T10.setTop (mkF m 17 #[.val (.ref a1), .val (.long q2), .second, .val (.long q3), .second, .val (.long q4), .second] [(.long q4), (.ref a1)])) := by
    intro t kt
    refine pre7 t ?_
    refine st10 _ ?_
    show Steps p.tables e below (T10.setTop (mkF m 14 #[.val (.ref a1), .val (.long q2), .second, .val (.long q3), .second, .val (.long q4), .second] [])) _
    refine XS.aloadN X10.here hx rfl (hb hby d5_14) rfl rfl ?_
    show Steps p.tables e below (T10.setTop (mkF m 15 #[.val (.ref a1), .val (.long q2), .second, .val (.long q3), .second, .val (.long q4), .second] [(.ref a1)])) _
    refine XS.lload X10.here hx rfl (hb hby d5_15) rfl ?_
    show Steps p.tables e below (T10.setTop (mkF m 17 #[.val (.ref a1), .val (.long q2), .second, .val (.long q3), .second, .val (.long q4), .second] [(.long q4), (.ref a1)])) _
    exact kt
  have f14 : Fld Z h10 a1 "com/example/backplane/backplane/ClusterClock$Sample" "errorNanos" "J" (.long (0 : Int64)) := ((pF2.other W4 (Or.inr (slot_ne (Or.inr (hw _ (own_w 39 rfl))) (Or.inr (hw _ (own_w 35 rfl))) (by decide) (t := .long) (t' := .long) (by decide) (by decide)))).other W10 (Or.inr (slot_ne (Or.inr (hw _ (own_w 39 rfl))) (Or.inr (hw _ (own_w 37 rfl))) (by decide) (t := .long) (t' := .long) (by decide) (by decide))))
  have f15 : Exa Z h10 a1 "com/example/backplane/backplane/ClusterClock$Sample" := (f9.wr W10)
  obtain ⟨T16, h16, X16, e16, W16, st16⟩ := putF X10 hx hZ hown (host := "") (Or.inl (hw _ (own_w 38 rfl))) Via.refl e10 f14 f15 (Or.inr ⟨(hw _ (own_w 39 rfl)), rfl, hnm⟩) (hw _ (own_w 23 rfl)) (ty := .long) (by decide) rfl rfl (g := (mkF m 17 #[.val (.ref a1), .val (.long q2), .second, .val (.long q3), .second, .val (.long q4), .second] [(.long q4), (.ref a1)])) rfl rfl (hb hby d5_17)
  have N16 := Fr.snoc X16 N10 pg1
  have zs17 : n0 ≤ h16.size := Nat.le_trans zs11 (Keep.of_wr W16).1
  have kc18 : Keep h0 h16 [a1] := kc12.wr W16 (Or.inl (List.mem_of_getElem? (i := 0) rfl))
  have fw16 : Fld Z h16 a1 "com/example/backplane/backplane/ClusterClock$Sample" "errorNanos" "J" (.long q4) := f14.same W16
  have pre19 : own_Go p e below S0 (T16.setTop (mkF m 20 #[.val (.ref a1), .val (.long q2), .second, .val (.long q3), .second, .val (.long q4), .second] [])) := by
    intro t kt
    refine pre13 t ?_
    refine st16 _ ?_
    show Steps p.tables e below (T16.setTop (mkF m 20 #[.val (.ref a1), .val (.long q2), .second, .val (.long q3), .second, .val (.long q4), .second] [])) _
    exact kt
  obtain ⟨fs, hr, hrun, hended, hW, hsame⟩ := X16.leave (v := none) (fun _ => rfl)
  refine ⟨_, _, fin _ (pre19 _ ?_), hrun, hended, _, _, rfl, ?_, ⟨_, rfl⟩, hW, hsame.mono (by decide) (by decide)⟩
  · exact X16.returnOut hx Bd.returns (hb hby d5_20) hr
  have f20 : Exa Z h16 a1 "com/example/backplane/backplane/ClusterClock$Sample" := (f15.wr W16)
  have f21 : Fld Z h16 a1 "com/example/backplane/backplane/ClusterClock$Sample" "clusterMs" "J" (.long q2) := ((fw4.other W10 (Or.inr (slot_ne (Or.inr (hw _ (own_w 35 rfl))) (Or.inr (hw _ (own_w 37 rfl))) (by decide) (t := .long) (t' := .long) (by decide) (by decide)))).other W16 (Or.inr (slot_ne (Or.inr (hw _ (own_w 35 rfl))) (Or.inr (hw _ (own_w 39 rfl))) (by decide) (t := .long) (t' := .long) (by decide) (by decide))))
  have f22 : Fld Z h16 a1 "com/example/backplane/backplane/ClusterClock$Sample" "atNanos" "J" (.long q3) := (fw10.other W16 (Or.inr (slot_ne (Or.inr (hw _ (own_w 37 rfl))) (Or.inr (hw _ (own_w 39 rfl))) (by decide) (t := .long) (t' := .long) (by decide) (by decide))))
  · show Q5 Z a1 q2 q3 q4 h0 n0 _ T16.heap _
    rw [e16]
    exact ⟨rfl, N16, kc18, f20, f21, f22, fw16⟩

theorem d2_0 : decode prog_1_method_1_code 0 = .ok (.aload_n 0, 1) := by decide +kernel
theorem d2_1 : decode prog_1_method_1_code 1 = .ok (.invokespecial 1, 3) := by decide +kernel
theorem d2_4 : decode prog_1_method_1_code 4 = .ok (.return_, 1) := by decide +kernel
theorem pn_2 : plainName "com/example/backplane/backplane/ClusterClock" = true := by first | (simp [plainName, overriddenIn]; done) | decide +kernel
theorem ef_2 (m : MethodId) (x0 : Addr) : entryFrame m #[(.ref x0)] 1 = mkF m 0 #[.val (.ref x0)] [] := by first | (simp [entryFrame, mkF, argsToLocals, Value.category]; done) | rfl
def Q2 (Z : State) (a1 : Addr) (h0 : Heap) (n0 : Nat) (v : Option Value) (h : Heap) (L : List Loc) : Prop := v = none ∧ Fr n0 L ∧ h = h0
set_option maxRecDepth 65536 in
set_option maxHeartbeats 40000000 in
theorem rm2 (l : Launch) (Z : State) (a0 : Array Value) (hw : ∀ d ∈ tables_1, d.before a0 Z = true) (ws : List Jvm.Cond) (a1 : Addr) (h0 : Heap) (n0 : Nat) (Z0 : n0 ≤ h0.size) :
    MetFree l (⟨"com/example/backplane/backplane/ClusterClock", "<init>", "()V"⟩ : MethodName) (head1 (Jvm.Cond.code (⟨"com/example/backplane/backplane/ClusterClock", "<init>", "()V"⟩ : MethodName) prog_1_method_1_code 1 none :: ws) ({ frames := 1, cells := 0, slots := 0, locals := 12 } : Room)) (fun a U => a = #[(.ref a1)] ∧ Z.Warmed39 U.vm ∧ U.heap = h0) (fun _ _ _ _ _ => True) (fun _ U o U' => ∃ v L, o = .returned v ∧ Q2 Z a1 h0 n0 v U'.heap L ∧ FrameEnd U o U' L ({ frames := 1, cells := 0, slots := 0, locals := 12 } : Room).cells ({ frames := 1, cells := 0, slots := 0, locals := 12 } : Room).slots) := by
  refine MetFree.of_bodySF (plainFor_of_name pn_2) hisR ?_
  intro p e s m args below meth c s₁ Bd hml0 hP hK
  obtain ⟨rfl, hZ, hh⟩ := hP
  have hx := Bd.exec
  have hby := Bd.bytes
  have hml : c.maxLocals = 1 := hml0
  have hown0 := findClass_of_methodNamed Bd.named
  have hown : s.vm.findClass "com/example/backplane/backplane/ClusterClock" = some m.cls := hown0
  have hnm := (name_of_methodNamed Bd.named Bd.method).1
  have X0 : Stand p l e ({ frames := 1, cells := 0, slots := 0, locals := 12 } : Room) s m #[(.ref a1)] below meth c s₁ [] 0 0 := Stand.of_body Bd
  have e0 : s₁.heap = h0 := by rw [← hh, Bd.state]; rfl
  have N0 := Fr.nil n0
  obtain ⟨S0, hS0⟩ : ∃ z, z = s₁.setTop (entryFrame m #[(.ref a1)] 1) := ⟨_, rfl⟩
  have pre0 : own_Go p e below S0 (s₁.setTop (mkF m 0 #[.val (.ref a1)] [])) := fun t k => by rw [hS0]; exact castTop (ef_2 m a1) k
  have fin : ∀ t, Steps p.tables e below S0 t → Steps p.tables e below (s₁.setTop (entryFrame m #[(.ref a1)] 1)) t := fun t k => by rw [hS0] at k; exact k
  have pre1 : own_Go p e below S0 (s₁.setTop (mkF m 1 #[.val (.ref a1)] [(.ref a1)])) := by
    intro t kt
    refine pre0 t ?_
    refine XS.aloadN X0.here hx rfl (hb hby d2_0) rfl rfl ?_
    show Steps p.tables e below (s₁.setTop (mkF m 1 #[.val (.ref a1)] [(.ref a1)])) _
    exact kt
  obtain ⟨T2, X2, e2, st2⟩ := initO X0 hx hZ hown (hw _ (own_w 13 rfl)) (hw _ (own_w 14 rfl)) (hw _ (own_w 15 rfl)) e0 (g := (mkF m 1 #[.val (.ref a1)] [(.ref a1)])) rfl (by rw [hml]; rfl) rfl (hb hby d2_1) (by decide) (W := 0) (by show 2 * 0 + _ ≤ _; exact Nat.le_of_eq rfl) (by decide)
  have pre3 : own_Go p e below S0 (T2.setTop (mkF m 4 #[.val (.ref a1)] [])) := by
    intro t kt
    refine pre1 t ?_
    refine st2 _ ?_
    show Steps p.tables e below (T2.setTop (mkF m 4 #[.val (.ref a1)] [])) _
    exact kt
  obtain ⟨fs, hr, hrun, hended, hW, hsame⟩ := X2.leave (v := none) (fun _ => rfl)
  refine ⟨_, _, fin _ (pre3 _ ?_), hrun, hended, _, _, rfl, ?_, ⟨_, rfl⟩, hW, hsame.mono (by decide) (by decide)⟩
  · exact X2.returnOut hx Bd.returns (hb hby d2_4) hr
  · show Q2 Z a1 h0 n0 _ T2.heap _
    rw [e2]
    exact ⟨rfl, N0, rfl⟩

theorem d8_0 : decode prog_2_method_6_code 0 = .ok (.aload_n 0, 1) := by decide +kernel
theorem d8_1 : decode prog_2_method_6_code 1 = .ok (.getfield 9, 3) := by decide +kernel
theorem d8_4 : decode prog_2_method_6_code 4 = .ok (.lreturn, 1) := by decide +kernel
theorem pn_8 : plainName "com/example/backplane/backplane/ClusterClock$Sample" = true := by first | (simp [plainName, overriddenIn]; done) | decide +kernel
theorem ef_8 (m : MethodId) (x0 : Addr) : entryFrame m #[(.ref x0)] 1 = mkF m 0 #[.val (.ref x0)] [] := by first | (simp [entryFrame, mkF, argsToLocals, Value.category]; done) | rfl
def Q8 (Z : State) (a1 : Addr) (u : Int64) (h0 : Heap) (n0 : Nat) (v : Option Value) (h : Heap) (L : List Loc) : Prop := v = (some (.long u)) ∧ Fr n0 L ∧ h = h0
set_option maxRecDepth 65536 in
set_option maxHeartbeats 40000000 in
theorem rm8 (l : Launch) (Z : State) (a0 : Array Value) (hw : ∀ d ∈ tables_1, d.before a0 Z = true) (ws : List Jvm.Cond) (a1 : Addr) (u : Int64) (h0 : Heap) (n0 : Nat) (Z0 : n0 ≤ h0.size) (pF1 : Fld Z h0 a1 "com/example/backplane/backplane/ClusterClock$Sample" "clusterMs" "J" (.long u)) :
    MetFree l (⟨"com/example/backplane/backplane/ClusterClock$Sample", "clusterMs", "()J"⟩ : MethodName) (head1 (Jvm.Cond.code (⟨"com/example/backplane/backplane/ClusterClock$Sample", "clusterMs", "()J"⟩ : MethodName) prog_2_method_6_code 1 (some .long) :: ws) ({ frames := 0, cells := 0, slots := 0, locals := 0 } : Room)) (fun a U => a = #[(.ref a1)] ∧ Z.Warmed39 U.vm ∧ U.heap = h0) (fun _ _ _ _ _ => True) (fun _ U o U' => ∃ v L, o = .returned v ∧ Q8 Z a1 u h0 n0 v U'.heap L ∧ FrameEnd U o U' L ({ frames := 0, cells := 0, slots := 0, locals := 0 } : Room).cells ({ frames := 0, cells := 0, slots := 0, locals := 0 } : Room).slots) := by
  refine MetFree.of_bodySF (plainFor_of_name pn_8) hisR ?_
  intro p e s m args below meth c s₁ Bd hml0 hP hK
  obtain ⟨rfl, hZ, hh⟩ := hP
  have hx := Bd.exec
  have hby := Bd.bytes
  have hml : c.maxLocals = 1 := hml0
  have hown0 := findClass_of_methodNamed Bd.named
  have hown : s.vm.findClass "com/example/backplane/backplane/ClusterClock$Sample" = some m.cls := hown0
  have hnm := (name_of_methodNamed Bd.named Bd.method).1
  have X0 : Stand p l e ({ frames := 0, cells := 0, slots := 0, locals := 0 } : Room) s m #[(.ref a1)] below meth c s₁ [] 0 0 := Stand.of_body Bd
  have e0 : s₁.heap = h0 := by rw [← hh, Bd.state]; rfl
  have N0 := Fr.nil n0
  obtain ⟨S0, hS0⟩ : ∃ z, z = s₁.setTop (entryFrame m #[(.ref a1)] 1) := ⟨_, rfl⟩
  have pre0 : own_Go p e below S0 (s₁.setTop (mkF m 0 #[.val (.ref a1)] [])) := fun t k => by rw [hS0]; exact castTop (ef_8 m a1) k
  have fin : ∀ t, Steps p.tables e below S0 t → Steps p.tables e below (s₁.setTop (entryFrame m #[(.ref a1)] 1)) t := fun t k => by rw [hS0] at k; exact k
  have pre1 : own_Go p e below S0 (s₁.setTop (mkF m 1 #[.val (.ref a1)] [(.ref a1)])) := by
    intro t kt
    refine pre0 t ?_
    refine XS.aloadN X0.here hx rfl (hb hby d8_0) rfl rfl ?_
    show Steps p.tables e below (s₁.setTop (mkF m 1 #[.val (.ref a1)] [(.ref a1)])) _
    exact kt
  obtain ⟨T2, X2, e2, st2⟩ := getF X0 hx hZ hown (host := "") (Or.inl (hw _ (own_w 34 rfl))) Via.refl e0 pF1 (g := (mkF m 1 #[.val (.ref a1)] [(.ref a1)])) rfl rfl (hb hby d8_1)
  have pre3 : own_Go p e below S0 (T2.setTop (mkF m 4 #[.val (.ref a1)] [(.long u)])) := by
    intro t kt
    refine pre1 t ?_
    refine st2 _ ?_
    show Steps p.tables e below (T2.setTop (mkF m 4 #[.val (.ref a1)] [(.long u)])) _
    exact kt
  obtain ⟨fs, hr, hrun, hended, hW, hsame⟩ := X2.leave (v := some (.long u)) (fun h => by rw [Bd.returns] at h; cases h)
  refine ⟨_, _, fin _ (pre3 _ ?_), hrun, hended, _, _, rfl, ?_, ⟨_, rfl⟩, hW, hsame.mono (by decide) (by decide)⟩
  · jvm_step X2.here [X2.here.top, hx, (hb hby d8_4), X2.method', Bd.returns, narrow]
    first | (intro acts; rw [hr _ acts rfl rfl rfl]) | rw [hr _ _ rfl rfl rfl]
    exact Steps.refl _
  · show Q8 Z a1 u h0 n0 _ T2.heap _
    rw [e2]
    exact ⟨rfl, N0, rfl⟩

theorem d9_0 : decode prog_2_method_7_code 0 = .ok (.aload_n 0, 1) := by decide +kernel
theorem d9_1 : decode prog_2_method_7_code 1 = .ok (.getfield 15, 3) := by decide +kernel
theorem d9_4 : decode prog_2_method_7_code 4 = .ok (.lreturn, 1) := by decide +kernel
theorem pn_9 : plainName "com/example/backplane/backplane/ClusterClock$Sample" = true := by first | (simp [plainName, overriddenIn]; done) | decide +kernel
theorem ef_9 (m : MethodId) (x0 : Addr) : entryFrame m #[(.ref x0)] 1 = mkF m 0 #[.val (.ref x0)] [] := by first | (simp [entryFrame, mkF, argsToLocals, Value.category]; done) | rfl
def Q9 (Z : State) (a1 : Addr) (u : Int64) (h0 : Heap) (n0 : Nat) (v : Option Value) (h : Heap) (L : List Loc) : Prop := v = (some (.long u)) ∧ Fr n0 L ∧ h = h0
set_option maxRecDepth 65536 in
set_option maxHeartbeats 40000000 in
theorem rm9 (l : Launch) (Z : State) (a0 : Array Value) (hw : ∀ d ∈ tables_1, d.before a0 Z = true) (ws : List Jvm.Cond) (a1 : Addr) (u : Int64) (h0 : Heap) (n0 : Nat) (Z0 : n0 ≤ h0.size) (pF1 : Fld Z h0 a1 "com/example/backplane/backplane/ClusterClock$Sample" "atNanos" "J" (.long u)) :
    MetFree l (⟨"com/example/backplane/backplane/ClusterClock$Sample", "atNanos", "()J"⟩ : MethodName) (head1 (Jvm.Cond.code (⟨"com/example/backplane/backplane/ClusterClock$Sample", "atNanos", "()J"⟩ : MethodName) prog_2_method_7_code 1 (some .long) :: ws) ({ frames := 0, cells := 0, slots := 0, locals := 0 } : Room)) (fun a U => a = #[(.ref a1)] ∧ Z.Warmed39 U.vm ∧ U.heap = h0) (fun _ _ _ _ _ => True) (fun _ U o U' => ∃ v L, o = .returned v ∧ Q9 Z a1 u h0 n0 v U'.heap L ∧ FrameEnd U o U' L ({ frames := 0, cells := 0, slots := 0, locals := 0 } : Room).cells ({ frames := 0, cells := 0, slots := 0, locals := 0 } : Room).slots) := by
  refine MetFree.of_bodySF (plainFor_of_name pn_9) hisR ?_
  intro p e s m args below meth c s₁ Bd hml0 hP hK
  obtain ⟨rfl, hZ, hh⟩ := hP
  have hx := Bd.exec
  have hby := Bd.bytes
  have hml : c.maxLocals = 1 := hml0
  have hown0 := findClass_of_methodNamed Bd.named
  have hown : s.vm.findClass "com/example/backplane/backplane/ClusterClock$Sample" = some m.cls := hown0
  have hnm := (name_of_methodNamed Bd.named Bd.method).1
  have X0 : Stand p l e ({ frames := 0, cells := 0, slots := 0, locals := 0 } : Room) s m #[(.ref a1)] below meth c s₁ [] 0 0 := Stand.of_body Bd
  have e0 : s₁.heap = h0 := by rw [← hh, Bd.state]; rfl
  have N0 := Fr.nil n0
  obtain ⟨S0, hS0⟩ : ∃ z, z = s₁.setTop (entryFrame m #[(.ref a1)] 1) := ⟨_, rfl⟩
  have pre0 : own_Go p e below S0 (s₁.setTop (mkF m 0 #[.val (.ref a1)] [])) := fun t k => by rw [hS0]; exact castTop (ef_9 m a1) k
  have fin : ∀ t, Steps p.tables e below S0 t → Steps p.tables e below (s₁.setTop (entryFrame m #[(.ref a1)] 1)) t := fun t k => by rw [hS0] at k; exact k
  have pre1 : own_Go p e below S0 (s₁.setTop (mkF m 1 #[.val (.ref a1)] [(.ref a1)])) := by
    intro t kt
    refine pre0 t ?_
    refine XS.aloadN X0.here hx rfl (hb hby d9_0) rfl rfl ?_
    show Steps p.tables e below (s₁.setTop (mkF m 1 #[.val (.ref a1)] [(.ref a1)])) _
    exact kt
  obtain ⟨T2, X2, e2, st2⟩ := getF X0 hx hZ hown (host := "") (Or.inl (hw _ (own_w 36 rfl))) Via.refl e0 pF1 (g := (mkF m 1 #[.val (.ref a1)] [(.ref a1)])) rfl rfl (hb hby d9_1)
  have pre3 : own_Go p e below S0 (T2.setTop (mkF m 4 #[.val (.ref a1)] [(.long u)])) := by
    intro t kt
    refine pre1 t ?_
    refine st2 _ ?_
    show Steps p.tables e below (T2.setTop (mkF m 4 #[.val (.ref a1)] [(.long u)])) _
    exact kt
  obtain ⟨fs, hr, hrun, hended, hW, hsame⟩ := X2.leave (v := some (.long u)) (fun h => by rw [Bd.returns] at h; cases h)
  refine ⟨_, _, fin _ (pre3 _ ?_), hrun, hended, _, _, rfl, ?_, ⟨_, rfl⟩, hW, hsame.mono (by decide) (by decide)⟩
  · jvm_step X2.here [X2.here.top, hx, (hb hby d9_4), X2.method', Bd.returns, narrow]
    first | (intro acts; rw [hr _ acts rfl rfl rfl]) | rw [hr _ _ rfl rfl rfl]
    exact Steps.refl _
  · show Q9 Z a1 u h0 n0 _ T2.heap _
    rw [e2]
    exact ⟨rfl, N0, rfl⟩

theorem d11_0 : decode prog_2_method_8_code 0 = .ok (.aload_n 0, 1) := by decide +kernel
theorem d11_1 : decode prog_2_method_8_code 1 = .ok (.getfield 18, 3) := by decide +kernel
theorem d11_4 : decode prog_2_method_8_code 4 = .ok (.lreturn, 1) := by decide +kernel
theorem pn_11 : plainName "com/example/backplane/backplane/ClusterClock$Sample" = true := by first | (simp [plainName, overriddenIn]; done) | decide +kernel
theorem ef_11 (m : MethodId) (x0 : Addr) : entryFrame m #[(.ref x0)] 1 = mkF m 0 #[.val (.ref x0)] [] := by first | (simp [entryFrame, mkF, argsToLocals, Value.category]; done) | rfl
def Q11 (Z : State) (a1 : Addr) (u : Int64) (h0 : Heap) (n0 : Nat) (v : Option Value) (h : Heap) (L : List Loc) : Prop := v = (some (.long u)) ∧ Fr n0 L ∧ h = h0
set_option maxRecDepth 65536 in
set_option maxHeartbeats 40000000 in
theorem rm11 (l : Launch) (Z : State) (a0 : Array Value) (hw : ∀ d ∈ tables_1, d.before a0 Z = true) (ws : List Jvm.Cond) (a1 : Addr) (u : Int64) (h0 : Heap) (n0 : Nat) (Z0 : n0 ≤ h0.size) (pF1 : Fld Z h0 a1 "com/example/backplane/backplane/ClusterClock$Sample" "errorNanos" "J" (.long u)) :
    MetFree l (⟨"com/example/backplane/backplane/ClusterClock$Sample", "errorNanos", "()J"⟩ : MethodName) (head1 (Jvm.Cond.code (⟨"com/example/backplane/backplane/ClusterClock$Sample", "errorNanos", "()J"⟩ : MethodName) prog_2_method_8_code 1 (some .long) :: ws) ({ frames := 0, cells := 0, slots := 0, locals := 0 } : Room)) (fun a U => a = #[(.ref a1)] ∧ Z.Warmed39 U.vm ∧ U.heap = h0) (fun _ _ _ _ _ => True) (fun _ U o U' => ∃ v L, o = .returned v ∧ Q11 Z a1 u h0 n0 v U'.heap L ∧ FrameEnd U o U' L ({ frames := 0, cells := 0, slots := 0, locals := 0 } : Room).cells ({ frames := 0, cells := 0, slots := 0, locals := 0 } : Room).slots) := by
  refine MetFree.of_bodySF (plainFor_of_name pn_11) hisR ?_
  intro p e s m args below meth c s₁ Bd hml0 hP hK
  obtain ⟨rfl, hZ, hh⟩ := hP
  have hx := Bd.exec
  have hby := Bd.bytes
  have hml : c.maxLocals = 1 := hml0
  have hown0 := findClass_of_methodNamed Bd.named
  have hown : s.vm.findClass "com/example/backplane/backplane/ClusterClock$Sample" = some m.cls := hown0
  have hnm := (name_of_methodNamed Bd.named Bd.method).1
  have X0 : Stand p l e ({ frames := 0, cells := 0, slots := 0, locals := 0 } : Room) s m #[(.ref a1)] below meth c s₁ [] 0 0 := Stand.of_body Bd
  have e0 : s₁.heap = h0 := by rw [← hh, Bd.state]; rfl
  have N0 := Fr.nil n0
  obtain ⟨S0, hS0⟩ : ∃ z, z = s₁.setTop (entryFrame m #[(.ref a1)] 1) := ⟨_, rfl⟩
  have pre0 : own_Go p e below S0 (s₁.setTop (mkF m 0 #[.val (.ref a1)] [])) := fun t k => by rw [hS0]; exact castTop (ef_11 m a1) k
  have fin : ∀ t, Steps p.tables e below S0 t → Steps p.tables e below (s₁.setTop (entryFrame m #[(.ref a1)] 1)) t := fun t k => by rw [hS0] at k; exact k
  have pre1 : own_Go p e below S0 (s₁.setTop (mkF m 1 #[.val (.ref a1)] [(.ref a1)])) := by
    intro t kt
    refine pre0 t ?_
    refine XS.aloadN X0.here hx rfl (hb hby d11_0) rfl rfl ?_
    show Steps p.tables e below (s₁.setTop (mkF m 1 #[.val (.ref a1)] [(.ref a1)])) _
    exact kt
  obtain ⟨T2, X2, e2, st2⟩ := getF X0 hx hZ hown (host := "") (Or.inl (hw _ (own_w 38 rfl))) Via.refl e0 pF1 (g := (mkF m 1 #[.val (.ref a1)] [(.ref a1)])) rfl rfl (hb hby d11_1)
  have pre3 : own_Go p e below S0 (T2.setTop (mkF m 4 #[.val (.ref a1)] [(.long u)])) := by
    intro t kt
    refine pre1 t ?_
    refine st2 _ ?_
    show Steps p.tables e below (T2.setTop (mkF m 4 #[.val (.ref a1)] [(.long u)])) _
    exact kt
  obtain ⟨fs, hr, hrun, hended, hW, hsame⟩ := X2.leave (v := some (.long u)) (fun h => by rw [Bd.returns] at h; cases h)
  refine ⟨_, _, fin _ (pre3 _ ?_), hrun, hended, _, _, rfl, ?_, ⟨_, rfl⟩, hW, hsame.mono (by decide) (by decide)⟩
  · jvm_step X2.here [X2.here.top, hx, (hb hby d11_4), X2.method', Bd.returns, narrow]
    first | (intro acts; rw [hr _ acts rfl rfl rfl]) | rw [hr _ _ rfl rfl rfl]
    exact Steps.refl _
  · show Q11 Z a1 u h0 n0 _ T2.heap _
    rw [e2]
    exact ⟨rfl, N0, rfl⟩

def own_X (n : Int64) : Int64 := FP.d2l (FP.dmul (FP.l2d n) (4562254508917369340 : UInt64))
theorem own_nan {n : Int64} (h : n.toInt.natAbs ≤ 2 ^ 30) : Jvm.Free.Fl.NoNaN64 (FP.dmul (FP.l2d n) (4562254508917369340 : UInt64)) :=
  Jvm.Free.Fl.noNaN64_no.mpr (decide_eq_false (own_nn h))

theorem d12_0 : decode prog_2_method_2_code 0 = .ok (.aload_n 0, 1) := by decide +kernel
theorem d12_1 : decode prog_2_method_2_code 1 = .ok (.getfield 18, 3) := by decide +kernel
theorem d12_4 : decode prog_2_method_2_code 4 = .ok (.lload_n 1, 1) := by decide +kernel
theorem d12_5 : decode prog_2_method_2_code 5 = .ok (.aload_n 0, 1) := by decide +kernel
theorem d12_6 : decode prog_2_method_2_code 6 = .ok (.getfield 15, 3) := by decide +kernel
theorem d12_9 : decode prog_2_method_2_code 9 = .ok (.lsub, 1) := by decide +kernel
theorem d12_10 : decode prog_2_method_2_code 10 = .ok (.l2d, 1) := by decide +kernel
theorem d12_11 : decode prog_2_method_2_code 11 = .ok (.ldc2_w 21, 3) := by decide +kernel
theorem d12_14 : decode prog_2_method_2_code 14 = .ok (.dmul, 1) := by decide +kernel
theorem d12_15 : decode prog_2_method_2_code 15 = .ok (.d2l, 1) := by decide +kernel
theorem d12_16 : decode prog_2_method_2_code 16 = .ok (.ladd, 1) := by decide +kernel
theorem d12_17 : decode prog_2_method_2_code 17 = .ok (.lreturn, 1) := by decide +kernel
theorem pn_12 : plainName "com/example/backplane/backplane/ClusterClock$Sample" = true := by first | (simp [plainName, overriddenIn]; done) | decide +kernel
theorem ef_12 (m : MethodId) (x0 : Addr) (x1 : Int64) : entryFrame m #[(.ref x0), (.long x1)] 3 = mkF m 0 #[.val (.ref x0), .val (.long x1), .second] [] := by first | (simp [entryFrame, mkF, argsToLocals, Value.category]; done) | rfl
def Q12 (Z : State) (a1 : Addr) (q2 : Int64) (u2 : Int64) (u3 : Int64) (h0 : Heap) (n0 : Nat) (v : Option Value) (h : Heap) (L : List Loc) : Prop := v = (some (.long (u3 + (own_X (q2 - u2))))) ∧ Fr n0 L ∧ h = h0
set_option maxRecDepth 65536 in
set_option maxHeartbeats 40000000 in
theorem rm12 (l : Launch) (Z : State) (a0 : Array Value) (hw : ∀ d ∈ tables_1, d.before a0 Z = true) (ws : List Jvm.Cond) (a1 : Addr) (q2 : Int64) (u2 : Int64) (u3 : Int64) (h0 : Heap) (n0 : Nat) (Z0 : n0 ≤ h0.size) (pF2 : Fld Z h0 a1 "com/example/backplane/backplane/ClusterClock$Sample" "atNanos" "J" (.long u2)) (pF3 : Fld Z h0 a1 "com/example/backplane/backplane/ClusterClock$Sample" "errorNanos" "J" (.long u3)) (hX : ((q2 - u2).toInt.natAbs ≤ 2 ^ 30)) :
    MetFree l (⟨"com/example/backplane/backplane/ClusterClock$Sample", "errorAt", "(J)J"⟩ : MethodName) (head1 (Jvm.Cond.code (⟨"com/example/backplane/backplane/ClusterClock$Sample", "errorAt", "(J)J"⟩ : MethodName) prog_2_method_2_code 3 (some .long) :: ws) ({ frames := 0, cells := 0, slots := 0, locals := 0 } : Room)) (fun a U => a = #[(.ref a1), (.long q2)] ∧ Z.Warmed39 U.vm ∧ U.heap = h0) (fun _ _ _ _ _ => True) (fun _ U o U' => ∃ v L, o = .returned v ∧ Q12 Z a1 q2 u2 u3 h0 n0 v U'.heap L ∧ FrameEnd U o U' L ({ frames := 0, cells := 0, slots := 0, locals := 0 } : Room).cells ({ frames := 0, cells := 0, slots := 0, locals := 0 } : Room).slots) := by
  refine MetFree.of_bodySF (plainFor_of_name pn_12) hisR ?_
  intro p e s m args below meth c s₁ Bd hml0 hP hK
  obtain ⟨rfl, hZ, hh⟩ := hP
  have hx := Bd.exec
  have hby := Bd.bytes
  have hml : c.maxLocals = 3 := hml0
  have hown0 := findClass_of_methodNamed Bd.named
  have hown : s.vm.findClass "com/example/backplane/backplane/ClusterClock$Sample" = some m.cls := hown0
  have hnm := (name_of_methodNamed Bd.named Bd.method).1
  have X0 : Stand p l e ({ frames := 0, cells := 0, slots := 0, locals := 0 } : Room) s m #[(.ref a1), (.long q2)] below meth c s₁ [] 0 0 := Stand.of_body Bd
  have e0 : s₁.heap = h0 := by rw [← hh, Bd.state]; rfl
  have N0 := Fr.nil n0
  obtain ⟨S0, hS0⟩ : ∃ z, z = s₁.setTop (entryFrame m #[(.ref a1), (.long q2)] 3) := ⟨_, rfl⟩
  have pre0 : own_Go p e below S0 (s₁.setTop (mkF m 0 #[.val (.ref a1), .val (.long q2), .second] [])) := fun t k => by rw [hS0]; exact castTop (ef_12 m a1 q2) k
  have fin : ∀ t, Steps p.tables e below S0 t → Steps p.tables e below (s₁.setTop (entryFrame m #[(.ref a1), (.long q2)] 3)) t := fun t k => by rw [hS0] at k; exact k
  have pre1 : own_Go p e below S0 (s₁.setTop (mkF m 1 #[.val (.ref a1), .val (.long q2), .second] [(.ref a1)])) := by
    intro t kt
    refine pre0 t ?_
    refine XS.aloadN X0.here hx rfl (hb hby d12_0) rfl rfl ?_
    show Steps p.tables e below (s₁.setTop (mkF m 1 #[.val (.ref a1), .val (.long q2), .second] [(.ref a1)])) _
    exact kt
  obtain ⟨T2, X2, e2, st2⟩ := getF X0 hx hZ hown (host := "") (Or.inl (hw _ (own_w 38 rfl))) Via.refl e0 pF3 (g := (mkF m 1 #[.val (.ref a1), .val (.long q2), .second] [(.ref a1)])) rfl rfl (hb hby d12_1)
  have pre3 : own_Go p e below S0 (T2.setTop (mkF m 6 #[.val (.ref a1), .val (.long q2), .second] [(.ref a1), (.long q2), (.long u3)])) := by
    intro t kt
    refine pre1 t ?_
    refine st2 _ ?_
    show Steps p.tables e below (T2.setTop (mkF m 4 #[.val (.ref a1), .val (.long q2), .second] [(.long u3)])) _
    refine XS.lloadN X2.here hx rfl (hb hby d12_4) rfl ?_
    show Steps p.tables e below (T2.setTop (mkF m 5 #[.val (.ref a1), .val (.long q2), .second] [(.long q2), (.long u3)])) _
    refine XS.aloadN X2.here hx rfl (hb hby d12_5) rfl rfl ?_
    show Steps p.tables e below (T2.setTop (mkF m 6 #[.val (.ref a1), .val (.long q2), .second] [(.ref a1), (.long q2), (.long u3)])) _
    exact kt
  obtain ⟨T4, X4, e4, st4⟩ := getF X2 hx hZ hown (host := "") (Or.inl (hw _ (own_w 36 rfl))) Via.refl e2 pF2 (g := (mkF m 6 #[.val (.ref a1), .val (.long q2), .second] [(.ref a1), (.long q2), (.long u3)])) rfl rfl (hb hby d12_6)
  have pre5 : own_Go p e below S0 (T4.setTop (mkF m 17 #[.val (.ref a1), .val (.long q2), .second] [(.long (u3 + (FP.d2l (FP.dmul (FP.l2d (q2 - u2)) (4562254508917369340 : UInt64)))))])) := by
    intro t kt
    refine pre3 t ?_
    refine st4 _ ?_
    show Steps p.tables e below (T4.setTop (mkF m 9 #[.val (.ref a1), .val (.long q2), .second] [(.long u2), (.long q2), (.long u3)])) _
    refine XS.lsub X4.here hx rfl (hb hby d12_9) rfl ?_
    show Steps p.tables e below (T4.setTop (mkF m 10 #[.val (.ref a1), .val (.long q2), .second] [(.long (q2 - u2)), (.long u3)])) _
    refine XS.l2dS X4.here hx rfl (hb hby d12_10) rfl rfl ?_
    show Steps p.tables e below (T4.setTop (mkF m 11 #[.val (.ref a1), .val (.long q2), .second] [(.double (FP.l2d (q2 - u2))), (.long u3)])) _
    refine X4.ldc2DoubleC hx hown (mvT hZ (hw _ (own_w 71 rfl))) (g := (mkF m 11 #[.val (.ref a1), .val (.long q2), .second] [(.double (FP.l2d (q2 - u2))), (.long u3)])) rfl (hb hby d12_11) _ ?_
    show Steps p.tables e below (T4.setTop (mkF m 14 #[.val (.ref a1), .val (.long q2), .second] [(.double (4562254508917369340 : UInt64)), (.double (FP.l2d (q2 - u2))), (.long u3)])) _
    refine XS.dmulS X4.here hx rfl (hb hby d12_14) rfl (own_nan hX) rfl ?_
    show Steps p.tables e below (T4.setTop (mkF m 15 #[.val (.ref a1), .val (.long q2), .second] [(.double (FP.dmul (FP.l2d (q2 - u2)) (4562254508917369340 : UInt64))), (.long u3)])) _
    refine XS.d2lS X4.here hx rfl (hb hby d12_15) rfl rfl ?_
    show Steps p.tables e below (T4.setTop (mkF m 16 #[.val (.ref a1), .val (.long q2), .second] [(.long (FP.d2l (FP.dmul (FP.l2d (q2 - u2)) (4562254508917369340 : UInt64)))), (.long u3)])) _
    refine XS.ladd X4.here hx rfl (hb hby d12_16) rfl ?_
    show Steps p.tables e below (T4.setTop (mkF m 17 #[.val (.ref a1), .val (.long q2), .second] [(.long (u3 + (FP.d2l (FP.dmul (FP.l2d (q2 - u2)) (4562254508917369340 : UInt64)))))])) _
    exact kt
  obtain ⟨fs, hr, hrun, hended, hW, hsame⟩ := X4.leave (v := some (.long (u3 + (FP.d2l (FP.dmul (FP.l2d (q2 - u2)) (4562254508917369340 : UInt64)))))) (fun h => by rw [Bd.returns] at h; cases h)
  refine ⟨_, _, fin _ (pre5 _ ?_), hrun, hended, _, _, rfl, ?_, ⟨_, rfl⟩, hW, hsame.mono (by decide) (by decide)⟩
  · jvm_step X4.here [X4.here.top, hx, (hb hby d12_17), X4.method', Bd.returns, narrow]
    first | (intro acts; rw [hr _ acts rfl rfl rfl]) | rw [hr _ _ rfl rfl rfl]
    exact Steps.refl _
  · show Q12 Z a1 q2 u2 u3 h0 n0 _ T4.heap _
    rw [e4]
    exact ⟨rfl, N0, rfl⟩

theorem d4_0 : decode prog_1_method_3_code 0 = .ok (.lload 5, 2) := by decide +kernel
theorem d4_2 : decode prog_1_method_3_code 2 = .ok (.lload_n 1, 1) := by decide +kernel
theorem d4_3 : decode prog_1_method_3_code 3 = .ok (.lsub, 1) := by decide +kernel
theorem d4_4 : decode prog_1_method_3_code 4 = .ok (.ldc2_w 24, 3) := by decide +kernel
theorem d4_7 : decode prog_1_method_3_code 7 = .ok (.ldiv, 1) := by decide +kernel
theorem d4_8 : decode prog_1_method_3_code 8 = .ok (.lstore 7, 2) := by decide +kernel
theorem d4_10 : decode prog_1_method_3_code 10 = .ok (.new 26, 3) := by decide +kernel
theorem d4_13 : decode prog_1_method_3_code 13 = .ok (.dup, 1) := by decide +kernel
theorem d4_14 : decode prog_1_method_3_code 14 = .ok (.lload_n 3, 1) := by decide +kernel
theorem d4_15 : decode prog_1_method_3_code 15 = .ok (.lload_n 1, 1) := by decide +kernel
theorem d4_16 : decode prog_1_method_3_code 16 = .ok (.lload 7, 2) := by decide +kernel
theorem d4_18 : decode prog_1_method_3_code 18 = .ok (.ladd, 1) := by decide +kernel
theorem d4_19 : decode prog_1_method_3_code 19 = .ok (.lload 7, 2) := by decide +kernel
theorem d4_21 : decode prog_1_method_3_code 21 = .ok (.invokespecial 28, 3) := by decide +kernel
theorem d4_24 : decode prog_1_method_3_code 24 = .ok (.astore 9, 2) := by decide +kernel
theorem d4_26 : decode prog_1_method_3_code 26 = .ok (.aload_n 0, 1) := by decide +kernel
theorem d4_27 : decode prog_1_method_3_code 27 = .ok (.getfield 30, 3) := by decide +kernel
theorem d4_30 : decode prog_1_method_3_code 30 = .ok (.astore 10, 2) := by decide +kernel
theorem d4_32 : decode prog_1_method_3_code 32 = .ok (.aload 10, 2) := by decide +kernel
theorem d4_34 : decode prog_1_method_3_code 34 = .ok (.ifnull 22, 3) := by decide +kernel
theorem d4_56 : decode prog_1_method_3_code 56 = .ok (.aload_n 0, 1) := by decide +kernel
theorem d4_57 : decode prog_1_method_3_code 57 = .ok (.aload 9, 2) := by decide +kernel
theorem d4_59 : decode prog_1_method_3_code 59 = .ok (.putfield 30, 3) := by decide +kernel
theorem d4_62 : decode prog_1_method_3_code 62 = .ok (.return_, 1) := by decide +kernel
theorem pn_4 : plainName "com/example/backplane/backplane/ClusterClock" = true := by first | (simp [plainName, overriddenIn]; done) | decide +kernel
theorem pd_1 : parseMethodDescriptor "(JJJ)V" = some ⟨[.long, .long, .long], none⟩ := by decide +kernel
theorem ef_sm1 (m : MethodId) (x0 : Addr) (x1 : Int64) (x2 : Int64) (x3 : Int64) : entryFrame m #[(.ref x0), (.long x1), (.long x2), (.long x3)] 11 = mkF m 0 #[.val (.ref x0), .val (.long x1), .second, .val (.long x2), .second, .val (.long x3), .second, .unset, .unset, .unset, .unset] [] := by first | (simp [entryFrame, mkF, argsToLocals, Value.category]; done) | rfl
def Qsm1 (Z : State) (a1 : Addr) (q2 : Int64) (q3 : Int64) (q4 : Int64) (h0 : Heap) (n0 : Nat) (v : Option Value) (h : Heap) (L : List Loc) : Prop := ∃ b : Addr, v = none ∧ Fr n0 L ∧ Keep h0 h [a1] ∧ h0.size ≤ b ∧ Exa Z h a1 "com/example/backplane/backplane/ClusterClock" ∧ Fld Z h a1 "com/example/backplane/backplane/ClusterClock" "sample" "Lcom/example/backplane/backplane/ClusterClock$Sample;" (.ref b) ∧ Exa Z h b "com/example/backplane/backplane/ClusterClock$Sample" ∧ Fld Z h b "com/example/backplane/backplane/ClusterClock$Sample" "clusterMs" "J" (.long q3) ∧ Fld Z h b "com/example/backplane/backplane/ClusterClock$Sample" "atNanos" "J" (.long (q2 + ((q4 - q2) / (2 : Int64)))) ∧ Fld Z h b "com/example/backplane/backplane/ClusterClock$Sample" "errorNanos" "J" (.long ((q4 - q2) / (2 : Int64)))
set_option maxRecDepth 65536 in
set_option maxHeartbeats 40000000 in
theorem rmsm1 (l : Launch) (Z : State) (a0 : Array Value) (hw : ∀ d ∈ tables_1, d.before a0 Z = true) (ws : List Jvm.Cond) (a1 : Addr) (q2 : Int64) (q3 : Int64) (q4 : Int64) (h0 : Heap) (n0 : Nat) (Z0 : n0 ≤ h0.size) (pE1 : Exa Z h0 a1 "com/example/backplane/backplane/ClusterClock") (pg1 : n0 ≤ a1) (pF1 : Fld Z h0 a1 "com/example/backplane/backplane/ClusterClock" "sample" "Lcom/example/backplane/backplane/ClusterClock$Sample;" .null) :
    MetFree l (⟨"com/example/backplane/backplane/ClusterClock", "sample", "(JJJ)V"⟩ : MethodName) (head1 (Jvm.Cond.code (⟨"com/example/backplane/backplane/ClusterClock", "sample", "(JJJ)V"⟩ : MethodName) prog_1_method_3_code 11 none :: ws) ({ frames := 3, cells := 1, slots := 3, locals := 43 } : Room)) (fun a U => a = #[(.ref a1), (.long q2), (.long q3), (.long q4)] ∧ Z.Warmed39 U.vm ∧ U.heap = h0) (fun _ _ _ _ _ => True) (fun _ U o U' => ∃ v L, o = .returned v ∧ Qsm1 Z a1 q2 q3 q4 h0 n0 v U'.heap L ∧ FrameEnd U o U' L ({ frames := 3, cells := 1, slots := 3, locals := 43 } : Room).cells ({ frames := 3, cells := 1, slots := 3, locals := 43 } : Room).slots) := by
  refine MetFree.of_bodySF (plainFor_of_name pn_4) hisR ?_
  intro p e s m args below meth c s₁ Bd hml0 hP hK
  obtain ⟨rfl, hZ, hh⟩ := hP
  have hx := Bd.exec
  have hby := Bd.bytes
  have hml : c.maxLocals = 11 := hml0
  have hown0 := findClass_of_methodNamed Bd.named
  have hown : s.vm.findClass "com/example/backplane/backplane/ClusterClock" = some m.cls := hown0
  have hnm := (name_of_methodNamed Bd.named Bd.method).1
  have X0 : Stand p l e ({ frames := 3, cells := 1, slots := 3, locals := 43 } : Room) s m #[(.ref a1), (.long q2), (.long q3), (.long q4)] below meth c s₁ [] 0 0 := Stand.of_body Bd
  have e0 : s₁.heap = h0 := by rw [← hh, Bd.state]; rfl
  have N0 := Fr.nil n0
  obtain ⟨S0, hS0⟩ : ∃ z, z = s₁.setTop (entryFrame m #[(.ref a1), (.long q2), (.long q3), (.long q4)] 11) := ⟨_, rfl⟩
  have pre0 : own_Go p e below S0 (s₁.setTop (mkF m 0 #[.val (.ref a1), .val (.long q2), .second, .val (.long q3), .second, .val (.long q4), .second, .unset, .unset, .unset, .unset] [])) := fun t k => by rw [hS0]; exact castTop (ef_sm1 m a1 q2 q3 q4) k
  have fin : ∀ t, Steps p.tables e below S0 t → Steps p.tables e below (s₁.setTop (entryFrame m #[(.ref a1), (.long q2), (.long q3), (.long q4)] 11)) t := fun t k => by rw [hS0] at k; exact k
  have kc0 : Keep h0 h0 [a1] := Keep.refl _ _
  have pre1 : own_Go p e below S0 (s₁.setTop (mkF m 10 #[.val (.ref a1), .val (.long q2), .second, .val (.long q3), .second, .val (.long q4), .second, .val (.long ((q4 - q2) / (2 : Int64))), .second, .unset, .unset] [])) := by
    intro t kt
    refine pre0 t ?_
    refine XS.lload X0.here hx rfl (hb hby d4_0) rfl ?_
    show Steps p.tables e below (s₁.setTop (mkF m 2 #[.val (.ref a1), .val (.long q2), .second, .val (.long q3), .second, .val (.long q4), .second, .unset, .unset, .unset, .unset] [(.long q4)])) _
    refine XS.lloadN X0.here hx rfl (hb hby d4_2) rfl ?_
    show Steps p.tables e below (s₁.setTop (mkF m 3 #[.val (.ref a1), .val (.long q2), .second, .val (.long q3), .second, .val (.long q4), .second, .unset, .unset, .unset, .unset] [(.long q2), (.long q4)])) _
    refine XS.lsub X0.here hx rfl (hb hby d4_3) rfl ?_
    show Steps p.tables e below (s₁.setTop (mkF m 4 #[.val (.ref a1), .val (.long q2), .second, .val (.long q3), .second, .val (.long q4), .second, .unset, .unset, .unset, .unset] [(.long (q4 - q2))])) _
    refine X0.ldc2Long hx hown (mvT hZ (hw _ (own_w 21 rfl))) (g := (mkF m 4 #[.val (.ref a1), .val (.long q2), .second, .val (.long q3), .second, .val (.long q4), .second, .unset, .unset, .unset, .unset] [(.long (q4 - q2))])) rfl (hb hby d4_4) _ ?_
    show Steps p.tables e below (s₁.setTop (mkF m 7 #[.val (.ref a1), .val (.long q2), .second, .val (.long q3), .second, .val (.long q4), .second, .unset, .unset, .unset, .unset] [(.long (2 : Int64)), (.long (q4 - q2))])) _
    refine XS.ldiv X0.here hx rfl (hb hby d4_7) rfl (by decide) ?_
    show Steps p.tables e below (s₁.setTop (mkF m 8 #[.val (.ref a1), .val (.long q2), .second, .val (.long q3), .second, .val (.long q4), .second, .unset, .unset, .unset, .unset] [(.long ((q4 - q2) / (2 : Int64)))])) _
    refine XS.lstore X0.here hx rfl (hb hby d4_8) rfl (l' := #[.val (.ref a1), .val (.long q2), .second, .val (.long q3), .second, .val (.long q4), .second, .val (.long ((q4 - q2) / (2 : Int64))), .second, .unset, .unset]) rfl ?_
    show Steps p.tables e below (s₁.setTop (mkF m 10 #[.val (.ref a1), .val (.long q2), .second, .val (.long q3), .second, .val (.long q4), .second, .val (.long ((q4 - q2) / (2 : Int64))), .second, .unset, .unset] [])) _
    exact kt
  obtain ⟨T2, h2, X2, e2, E2, A2, D2, -, st2⟩ := newO X0 hx hZ hown (hw _ (own_w 22 rfl)) (hw _ (own_w 23 rfl)) (hw _ (own_w 24 rfl)) e0 (g := (mkF m 10 #[.val (.ref a1), .val (.long q2), .second, .val (.long q3), .second, .val (.long q4), .second, .val (.long ((q4 - q2) / (2 : Int64))), .second, .unset, .unset] [])) rfl (hb hby d4_10) (by decide) (by decide)
  obtain ⟨b2, g2⟩ : ∃ z, z = h0.size := ⟨_, rfl⟩
  rw [← g2] at A2 D2 st2
  have ne3 : a1 ≠ b2 := Nat.ne_of_lt (Nat.lt_of_lt_of_le pE1.lt (Nat.le_of_eq g2.symm))
  have ge4 : n0 ≤ b2 := Nat.le_trans Z0 (Nat.le_of_eq g2.symm)
  have sz5 : h0.size ≤ b2 := Nat.le_trans kc0.1 (Nat.le_of_eq g2.symm)
  have zs6 : n0 ≤ h2.size := Nat.le_trans Z0 E2.1
  have kc7 : Keep h0 h2 [a1] := kc0.ext E2
  have fd8 : Fld Z h2 b2 "com/example/backplane/backplane/ClusterClock$Sample" "clusterMs" "J" (.long (0 : Int64)) := D2 (Or.inr (hw _ (own_w 35 rfl))) (ty := .long) (by decide)
  have fd9 : Fld Z h2 b2 "com/example/backplane/backplane/ClusterClock$Sample" "atNanos" "J" (.long (0 : Int64)) := D2 (Or.inr (hw _ (own_w 37 rfl))) (ty := .long) (by decide)
  have fd10 : Fld Z h2 b2 "com/example/backplane/backplane/ClusterClock$Sample" "errorNanos" "J" (.long (0 : Int64)) := D2 (Or.inr (hw _ (own_w 39 rfl))) (ty := .long) (by decide)
  have pre11 : own_Go p e below S0 (T2.setTop (mkF m 21 #[.val (.ref a1), .val (.long q2), .second, .val (.long q3), .second, .val (.long q4), .second, .val (.long ((q4 - q2) / (2 : Int64))), .second, .unset, .unset] [(.long ((q4 - q2) / (2 : Int64))), (.long (q2 + ((q4 - q2) / (2 : Int64)))), (.long q3), (.ref b2), (.ref b2)])) := by
    intro t kt
    refine pre1 t ?_
    refine st2 _ ?_
    show Steps p.tables e below (T2.setTop (mkF m 13 #[.val (.ref a1), .val (.long q2), .second, .val (.long q3), .second, .val (.long q4), .second, .val (.long ((q4 - q2) / (2 : Int64))), .second, .unset, .unset] [(.ref b2)])) _
    refine XS.dup X2.here hx rfl (hb hby d4_13) rfl rfl ?_
    show Steps p.tables e below (T2.setTop (mkF m 14 #[.val (.ref a1), .val (.long q2), .second, .val (.long q3), .second, .val (.long q4), .second, .val (.long ((q4 - q2) / (2 : Int64))), .second, .unset, .unset] [(.ref b2), (.ref b2)])) _
    refine XS.lloadN X2.here hx rfl (hb hby d4_14) rfl ?_
    show Steps p.tables e below (T2.setTop (mkF m 15 #[.val (.ref a1), .val (.long q2), .second, .val (.long q3), .second, .val (.long q4), .second, .val (.long ((q4 - q2) / (2 : Int64))), .second, .unset, .unset] [(.long q3), (.ref b2), (.ref b2)])) _
    refine XS.lloadN X2.here hx rfl (hb hby d4_15) rfl ?_
    show Steps p.tables e below (T2.setTop (mkF m 16 #[.val (.ref a1), .val (.long q2), .second, .val (.long q3), .second, .val (.long q4), .second, .val (.long ((q4 - q2) / (2 : Int64))), .second, .unset, .unset] [(.long q2), (.long q3), (.ref b2), (.ref b2)])) _
    refine XS.lload X2.here hx rfl (hb hby d4_16) rfl ?_
    show Steps p.tables e below (T2.setTop (mkF m 18 #[.val (.ref a1), .val (.long q2), .second, .val (.long q3), .second, .val (.long q4), .second, .val (.long ((q4 - q2) / (2 : Int64))), .second, .unset, .unset] [(.long ((q4 - q2) / (2 : Int64))), (.long q2), (.long q3), (.ref b2), (.ref b2)])) _
    refine XS.ladd X2.here hx rfl (hb hby d4_18) rfl ?_
    show Steps p.tables e below (T2.setTop (mkF m 19 #[.val (.ref a1), .val (.long q2), .second, .val (.long q3), .second, .val (.long q4), .second, .val (.long ((q4 - q2) / (2 : Int64))), .second, .unset, .unset] [(.long (q2 + ((q4 - q2) / (2 : Int64)))), (.long q3), (.ref b2), (.ref b2)])) _
    refine XS.lload X2.here hx rfl (hb hby d4_19) rfl ?_
    show Steps p.tables e below (T2.setTop (mkF m 21 #[.val (.ref a1), .val (.long q2), .second, .val (.long q3), .second, .val (.long q4), .second, .val (.long ((q4 - q2) / (2 : Int64))), .second, .unset, .unset] [(.long ((q4 - q2) / (2 : Int64))), (.long (q2 + ((q4 - q2) / (2 : Int64)))), (.long q3), (.ref b2), (.ref b2)])) _
    exact kt
  obtain ⟨_, _, ⟨T12, L12, k12, n12⟩, -, X12, ⟨Lc12, hQ12, l12, y12, z12⟩, st12⟩ := own_specialRef X2 hx hZ (y := (⟨"com/example/backplane/backplane/ClusterClock$Sample", "<init>", "(JJJ)V"⟩ : MethodName)) rfl hown (hw _ (own_w 25 rfl)) (mvT hZ (hw _ (own_w 26 rfl))) (mvT hZ (hw _ (own_w 27 rfl))) (by decide) (backOf (W := 1) (rm5 l Z a0 hw [] b2 q3 (q2 + ((q4 - q2) / (2 : Int64))) ((q4 - q2) / (2 : Int64)) h2 n0 zs6 A2 ge4 fd8 fd9 fd10) hZ (hw _ (own_w 27 rfl)) (hw _ (own_w 24 rfl)) (by decide) (by decide)) (g := (mkF m 21 #[.val (.ref a1), .val (.long q2), .second, .val (.long q3), .second, .val (.long q4), .second, .val (.long ((q4 - q2) / (2 : Int64))), .second, .unset, .unset] [(.long ((q4 - q2) / (2 : Int64))), (.long (q2 + ((q4 - q2) / (2 : Int64)))), (.long q3), (.ref b2), (.ref b2)])) rfl (by rw [hml]; rfl) (a := b2) (argsL := [(.long q3), (.long (q2 + ((q4 - q2) / (2 : Int64)))), (.long ((q4 - q2) / (2 : Int64)))]) (rest := [(.ref b2)]) (lenOf pd_1 rfl) rfl (by show 2 * 0 + _ ≤ _; exact Nat.le_of_eq rfl) (hb hby d4_21) (fun _ _ => ⟨rfl, e2, (by decide : 1 + 0 ≤ _), (by decide : 3 + 0 ≤ _)⟩)
  dsimp only [Pt.U, Pt.locs, Pt.cells, Pt.slots] at X12 l12 y12 z12 st12 hQ12
  subst l12 y12 z12
  obtain ⟨rfl, Nq12, K12, g13, g14, g15, g16⟩ := hQ12
  have N12 := Fr.app N0 Nq12
  have zs17 : n0 ≤ T12.heap.size := Nat.le_trans zs6 K12.1
  have kc18 : Keep h0 T12.heap [a1] := kc7.trans K12 (allS (Or.inr sz5) all0)
  have pre19 : own_Go p e below S0 (T12.setTop (mkF m 27 #[.val (.ref a1), .val (.long q2), .second, .val (.long q3), .second, .val (.long q4), .second, .val (.long ((q4 - q2) / (2 : Int64))), .second, .val (.ref b2), .unset] [(.ref a1)])) := by
    intro t kt
    refine pre11 t ?_
    refine st12.trans ?_
    show Steps p.tables e below (T12.setTop (mkF m 24 #[.val (.ref a1), .val (.long q2), .second, .val (.long q3), .second, .val (.long q4), .second, .val (.long ((q4 - q2) / (2 : Int64))), .second, .unset, .unset] [(.ref b2)])) _
    refine XS.astore X12.here hx rfl (hb hby d4_24) rfl rfl (l' := #[.val (.ref a1), .val (.long q2), .second, .val (.long q3), .second, .val (.long q4), .second, .val (.long ((q4 - q2) / (2 : Int64))), .second, .val (.ref b2), .unset]) rfl ?_
    show Steps p.tables e below (T12.setTop (mkF m 26 #[.val (.ref a1), .val (.long q2), .second, .val (.long q3), .second, .val (.long q4), .second, .val (.long ((q4 - q2) / (2 : Int64))), .second, .val (.ref b2), .unset] [])) _
    refine XS.aloadN X12.here hx rfl (hb hby d4_26) rfl rfl ?_
    show Steps p.tables e below (T12.setTop (mkF m 27 #[.val (.ref a1), .val (.long q2), .second, .val (.long q3), .second, .val (.long q4), .second, .val (.long ((q4 - q2) / (2 : Int64))), .second, .val (.ref b2), .unset] [(.ref a1)])) _
    exact kt
  have f20 : Fld Z T12.heap a1 "com/example/backplane/backplane/ClusterClock" "sample" "Lcom/example/backplane/backplane/ClusterClock$Sample;" .null := ((pF1.ext E2).keep K12 (ninS ne3 nin0))
  obtain ⟨T21, X21, e21, st21⟩ := getF X12 hx hZ hown (host := "") (Or.inl (hw _ (own_w 40 rfl))) Via.refl rfl f20 (g := (mkF m 27 #[.val (.ref a1), .val (.long q2), .second, .val (.long q3), .second, .val (.long q4), .second, .val (.long ((q4 - q2) / (2 : Int64))), .second, .val (.ref b2), .unset] [(.ref a1)])) rfl rfl (hb hby d4_27)
  have pre22 : own_Go p e below S0 (T21.setTop (mkF m 59 #[.val (.ref a1), .val (.long q2), .second, .val (.long q3), .second, .val (.long q4), .second, .val (.long ((q4 - q2) / (2 : Int64))), .second, .val (.ref b2), .val .null] [(.ref b2), (.ref a1)])) := by
    intro t kt
    refine pre19 t ?_
    refine st21 _ ?_
    show Steps p.tables e below (T21.setTop (mkF m 30 #[.val (.ref a1), .val (.long q2), .second, .val (.long q3), .second, .val (.long q4), .second, .val (.long ((q4 - q2) / (2 : Int64))), .second, .val (.ref b2), .unset] [.null])) _
    refine XS.astore X21.here hx rfl (hb hby d4_30) rfl rfl (l' := #[.val (.ref a1), .val (.long q2), .second, .val (.long q3), .second, .val (.long q4), .second, .val (.long ((q4 - q2) / (2 : Int64))), .second, .val (.ref b2), .val .null]) rfl ?_
    show Steps p.tables e below (T21.setTop (mkF m 32 #[.val (.ref a1), .val (.long q2), .second, .val (.long q3), .second, .val (.long q4), .second, .val (.long ((q4 - q2) / (2 : Int64))), .second, .val (.ref b2), .val .null] [])) _
    refine XS.aload X21.here hx rfl (hb hby d4_32) rfl rfl ?_
    show Steps p.tables e below (T21.setTop (mkF m 34 #[.val (.ref a1), .val (.long q2), .second, .val (.long q3), .second, .val (.long q4), .second, .val (.long ((q4 - q2) / (2 : Int64))), .second, .val (.ref b2), .val .null] [.null])) _
    refine XS.ifnullYes X21.here hx rfl (pc0 := 34) (pc' := 56) rfl (hb hby d4_34) rfl (by decide) (by decide) ?_
    show Steps p.tables e below (T21.setTop (mkF m 56 #[.val (.ref a1), .val (.long q2), .second, .val (.long q3), .second, .val (.long q4), .second, .val (.long ((q4 - q2) / (2 : Int64))), .second, .val (.ref b2), .val .null] [])) _
    refine XS.aloadN X21.here hx rfl (hb hby d4_56) rfl rfl ?_
    show Steps p.tables e below (T21.setTop (mkF m 57 #[.val (.ref a1), .val (.long q2), .second, .val (.long q3), .second, .val (.long q4), .second, .val (.long ((q4 - q2) / (2 : Int64))), .second, .val (.ref b2), .val .null] [(.ref a1)])) _
    refine XS.aload X21.here hx rfl (hb hby d4_57) rfl rfl ?_
    show Steps p.tables e below (T21.setTop (mkF m 59 #[.val (.ref a1), .val (.long q2), .second, .val (.long q3), .second, .val (.long q4), .second, .val (.long ((q4 - q2) / (2 : Int64))), .second, .val (.ref b2), .val .null] [(.ref b2), (.ref a1)])) _
    exact kt
  have f23 : Exa Z T12.heap a1 "com/example/backplane/backplane/ClusterClock" := ((pE1.ext E2).keep K12)
  obtain ⟨T24, h24, X24, e24, W24, st24⟩ := putF X21 hx hZ hown (host := "") (Or.inl (hw _ (own_w 40 rfl))) Via.refl e21 f20 f23 (Or.inl (hw _ (own_w 41 rfl))) (hw _ (own_w 8 rfl)) (ty := (.object "com/example/backplane/backplane/ClusterClock$Sample")) (by decide) rfl rfl (g := (mkF m 59 #[.val (.ref a1), .val (.long q2), .second, .val (.long q3), .second, .val (.long q4), .second, .val (.long ((q4 - q2) / (2 : Int64))), .second, .val (.ref b2), .val .null] [(.ref b2), (.ref a1)])) rfl rfl (hb hby d4_59)
  have N24 := Fr.snoc X24 N12 pg1
  have zs25 : n0 ≤ h24.size := Nat.le_trans zs17 (Keep.of_wr W24).1
  have kc26 : Keep h0 h24 [a1] := kc18.wr W24 (Or.inl (List.mem_of_getElem? (i := 0) rfl))
  have fw24 : Fld Z h24 a1 "com/example/backplane/backplane/ClusterClock" "sample" "Lcom/example/backplane/backplane/ClusterClock$Sample;" (.ref b2) := f20.same W24
  have pre27 : own_Go p e below S0 (T24.setTop (mkF m 62 #[.val (.ref a1), .val (.long q2), .second, .val (.long q3), .second, .val (.long q4), .second, .val (.long ((q4 - q2) / (2 : Int64))), .second, .val (.ref b2), .val .null] [])) := by
    intro t kt
    refine pre22 t ?_
    refine st24 _ ?_
    show Steps p.tables e below (T24.setTop (mkF m 62 #[.val (.ref a1), .val (.long q2), .second, .val (.long q3), .second, .val (.long q4), .second, .val (.long ((q4 - q2) / (2 : Int64))), .second, .val (.ref b2), .val .null] [])) _
    exact kt
  obtain ⟨fs, hr, hrun, hended, hW, hsame⟩ := X24.leave (v := none) (fun _ => rfl)
  refine ⟨_, _, fin _ (pre27 _ ?_), hrun, hended, _, _, rfl, ?_, ⟨_, rfl⟩, hW, hsame.mono (by decide) (by decide)⟩
  · exact X24.returnOut hx Bd.returns (hb hby d4_62) hr
  have f28 : Exa Z h24 a1 "com/example/backplane/backplane/ClusterClock" := (f23.wr W24)
  have f29 : Exa Z h24 b2 "com/example/backplane/backplane/ClusterClock$Sample" := (g13.wr W24)
  have f30 : Fld Z h24 b2 "com/example/backplane/backplane/ClusterClock$Sample" "clusterMs" "J" (.long q3) := (g14.other W24 (Or.inl (Ne.symm ne3)))
  have f31 : Fld Z h24 b2 "com/example/backplane/backplane/ClusterClock$Sample" "atNanos" "J" (.long (q2 + ((q4 - q2) / (2 : Int64)))) := (g15.other W24 (Or.inl (Ne.symm ne3)))
  have f32 : Fld Z h24 b2 "com/example/backplane/backplane/ClusterClock$Sample" "errorNanos" "J" (.long ((q4 - q2) / (2 : Int64))) := (g16.other W24 (Or.inl (Ne.symm ne3)))
  · show Qsm1 Z a1 q2 q3 q4 h0 n0 _ T24.heap _
    rw [e24]
    exact ⟨b2, rfl, N24, kc26, sz5, f28, fw24, f29, f30, f31, f32⟩

theorem d4_37 : decode prog_1_method_3_code 37 = .ok (.aload 9, 2) := by decide +kernel
theorem d4_39 : decode prog_1_method_3_code 39 = .ok (.invokevirtual 33, 3) := by decide +kernel
theorem d4_42 : decode prog_1_method_3_code 42 = .ok (.aload 10, 2) := by decide +kernel
theorem d4_44 : decode prog_1_method_3_code 44 = .ok (.aload 9, 2) := by decide +kernel
theorem d4_46 : decode prog_1_method_3_code 46 = .ok (.invokevirtual 36, 3) := by decide +kernel
theorem d4_49 : decode prog_1_method_3_code 49 = .ok (.invokevirtual 39, 3) := by decide +kernel
theorem d4_52 : decode prog_1_method_3_code 52 = .ok (.lcmp, 1) := by decide +kernel
theorem d4_53 : decode prog_1_method_3_code 53 = .ok (.ifCond .gt 9, 3) := by decide +kernel
theorem pd_2 : parseMethodDescriptor "()J" = some ⟨[], some .long⟩ := by decide +kernel
theorem pd_3 : parseMethodDescriptor "(J)J" = some ⟨[.long], some .long⟩ := by decide +kernel
theorem ef_sm2 (m : MethodId) (x0 : Addr) (x1 : Int64) (x2 : Int64) (x3 : Int64) : entryFrame m #[(.ref x0), (.long x1), (.long x2), (.long x3)] 11 = mkF m 0 #[.val (.ref x0), .val (.long x1), .second, .val (.long x2), .second, .val (.long x3), .second, .unset, .unset, .unset, .unset] [] := by first | (simp [entryFrame, mkF, argsToLocals, Value.category]; done) | rfl
def Qsm2 (Z : State) (a1 : Addr) (q2 : Int64) (q3 : Int64) (q4 : Int64) (r0 : Addr) (u1 : Int64) (u2 : Int64) (u3 : Int64) (h0 : Heap) (n0 : Nat) (v : Option Value) (h : Heap) (L : List Loc) : Prop := ∃ r : Addr, v = none ∧ Fr n0 L ∧ Keep h0 h [a1] ∧ Exa Z h a1 "com/example/backplane/backplane/ClusterClock" ∧ Fld Z h a1 "com/example/backplane/backplane/ClusterClock" "sample" "Lcom/example/backplane/backplane/ClusterClock$Sample;" (.ref r) ∧ Exa Z h r "com/example/backplane/backplane/ClusterClock$Sample" ∧ Fld Z h r "com/example/backplane/backplane/ClusterClock$Sample" "clusterMs" "J" (.long (if (u3 + (own_X ((q2 + ((q4 - q2) / (2 : Int64))) - u2))) < ((q4 - q2) / (2 : Int64)) then u1 else q3)) ∧ Fld Z h r "com/example/backplane/backplane/ClusterClock$Sample" "atNanos" "J" (.long (if (u3 + (own_X ((q2 + ((q4 - q2) / (2 : Int64))) - u2))) < ((q4 - q2) / (2 : Int64)) then u2 else (q2 + ((q4 - q2) / (2 : Int64)))))
set_option maxRecDepth 65536 in
set_option maxHeartbeats 40000000 in
theorem rmsm2 (l : Launch) (Z : State) (a0 : Array Value) (hw : ∀ d ∈ tables_1, d.before a0 Z = true) (ws : List Jvm.Cond) (a1 : Addr) (q2 : Int64) (q3 : Int64) (q4 : Int64) (r0 : Addr) (u1 : Int64) (u2 : Int64) (u3 : Int64) (h0 : Heap) (n0 : Nat) (Z0 : n0 ≤ h0.size) (pE1 : Exa Z h0 a1 "com/example/backplane/backplane/ClusterClock") (pg1 : n0 ≤ a1) (pF1 : Fld Z h0 a1 "com/example/backplane/backplane/ClusterClock" "sample" "Lcom/example/backplane/backplane/ClusterClock$Sample;" (.ref r0)) (pE2 : Exa Z h0 r0 "com/example/backplane/backplane/ClusterClock$Sample") (pG0 : Fld Z h0 r0 "com/example/backplane/backplane/ClusterClock$Sample" "clusterMs" "J" (.long u1)) (pG1 : Fld Z h0 r0 "com/example/backplane/backplane/ClusterClock$Sample" "atNanos" "J" (.long u2)) (pG2 : Fld Z h0 r0 "com/example/backplane/backplane/ClusterClock$Sample" "errorNanos" "J" (.long u3)) (n01 : r0 ≠ a1) (hX : (((q2 + ((q4 - q2) / (2 : Int64))) - u2).toInt.natAbs ≤ 2 ^ 30)) :
    MetFree l (⟨"com/example/backplane/backplane/ClusterClock", "sample", "(JJJ)V"⟩ : MethodName) (head1 (Jvm.Cond.code (⟨"com/example/backplane/backplane/ClusterClock", "sample", "(JJJ)V"⟩ : MethodName) prog_1_method_3_code 11 none :: ws) ({ frames := 3, cells := 1, slots := 3, locals := 43 } : Room)) (fun a U => a = #[(.ref a1), (.long q2), (.long q3), (.long q4)] ∧ Z.Warmed39 U.vm ∧ U.heap = h0) (fun _ _ _ _ _ => True) (fun _ U o U' => ∃ v L, o = .returned v ∧ Qsm2 Z a1 q2 q3 q4 r0 u1 u2 u3 h0 n0 v U'.heap L ∧ FrameEnd U o U' L ({ frames := 3, cells := 1, slots := 3, locals := 43 } : Room).cells ({ frames := 3, cells := 1, slots := 3, locals := 43 } : Room).slots) := by
  refine MetFree.of_bodySF (plainFor_of_name pn_4) hisR ?_
  intro p e s m args below meth c s₁ Bd hml0 hP hK
  obtain ⟨rfl, hZ, hh⟩ := hP
  have hx := Bd.exec
  have hby := Bd.bytes
  have hml : c.maxLocals = 11 := hml0
  have hown0 := findClass_of_methodNamed Bd.named
  have hown : s.vm.findClass "com/example/backplane/backplane/ClusterClock" = some m.cls := hown0
  have hnm := (name_of_methodNamed Bd.named Bd.method).1
  have X0 : Stand p l e ({ frames := 3, cells := 1, slots := 3, locals := 43 } : Room) s m #[(.ref a1), (.long q2), (.long q3), (.long q4)] below meth c s₁ [] 0 0 := Stand.of_body Bd
  have e0 : s₁.heap = h0 := by rw [← hh, Bd.state]; rfl
  have N0 := Fr.nil n0
  obtain ⟨S0, hS0⟩ : ∃ z, z = s₁.setTop (entryFrame m #[(.ref a1), (.long q2), (.long q3), (.long q4)] 11) := ⟨_, rfl⟩
  have pre0 : own_Go p e below S0 (s₁.setTop (mkF m 0 #[.val (.ref a1), .val (.long q2), .second, .val (.long q3), .second, .val (.long q4), .second, .unset, .unset, .unset, .unset] [])) := fun t k => by rw [hS0]; exact castTop (ef_sm2 m a1 q2 q3 q4) k
  have fin : ∀ t, Steps p.tables e below S0 t → Steps p.tables e below (s₁.setTop (entryFrame m #[(.ref a1), (.long q2), (.long q3), (.long q4)] 11)) t := fun t k => by rw [hS0] at k; exact k
  have kc0 : Keep h0 h0 [a1] := Keep.refl _ _
  have pre1 : own_Go p e below S0 (s₁.setTop (mkF m 10 #[.val (.ref a1), .val (.long q2), .second, .val (.long q3), .second, .val (.long q4), .second, .val (.long ((q4 - q2) / (2 : Int64))), .second, .unset, .unset] [])) := by
    intro t kt
    refine pre0 t ?_
    refine XS.lload X0.here hx rfl (hb hby d4_0) rfl ?_
    show Steps p.tables e below (s₁.setTop (mkF m 2 #[.val (.ref a1), .val (.long q2), .second, .val (.long q3), .second, .val (.long q4), .second, .unset, .unset, .unset, .unset] [(.long q4)])) _
    refine XS.lloadN X0.here hx rfl (hb hby d4_2) rfl ?_
    show Steps p.tables e below (s₁.setTop (mkF m 3 #[.val (.ref a1), .val (.long q2), .second, .val (.long q3), .second, .val (.long q4), .second, .unset, .unset, .unset, .unset] [(.long q2), (.long q4)])) _
    refine XS.lsub X0.here hx rfl (hb hby d4_3) rfl ?_
    show Steps p.tables e below (s₁.setTop (mkF m 4 #[.val (.ref a1), .val (.long q2), .second, .val (.long q3), .second, .val (.long q4), .second, .unset, .unset, .unset, .unset] [(.long (q4 - q2))])) _
    refine X0.ldc2Long hx hown (mvT hZ (hw _ (own_w 21 rfl))) (g := (mkF m 4 #[.val (.ref a1), .val (.long q2), .second, .val (.long q3), .second, .val (.long q4), .second, .unset, .unset, .unset, .unset] [(.long (q4 - q2))])) rfl (hb hby d4_4) _ ?_
    show Steps p.tables e below (s₁.setTop (mkF m 7 #[.val (.ref a1), .val (.long q2), .second, .val (.long q3), .second, .val (.long q4), .second, .unset, .unset, .unset, .unset] [(.long (2 : Int64)), (.long (q4 - q2))])) _
    refine XS.ldiv X0.here hx rfl (hb hby d4_7) rfl (by decide) ?_
    show Steps p.tables e below (s₁.setTop (mkF m 8 #[.val (.ref a1), .val (.long q2), .second, .val (.long q3), .second, .val (.long q4), .second, .unset, .unset, .unset, .unset] [(.long ((q4 - q2) / (2 : Int64)))])) _
    refine XS.lstore X0.here hx rfl (hb hby d4_8) rfl (l' := #[.val (.ref a1), .val (.long q2), .second, .val (.long q3), .second, .val (.long q4), .second, .val (.long ((q4 - q2) / (2 : Int64))), .second, .unset, .unset]) rfl ?_
    show Steps p.tables e below (s₁.setTop (mkF m 10 #[.val (.ref a1), .val (.long q2), .second, .val (.long q3), .second, .val (.long q4), .second, .val (.long ((q4 - q2) / (2 : Int64))), .second, .unset, .unset] [])) _
    exact kt
  obtain ⟨T2, h2, X2, e2, E2, A2, D2, -, st2⟩ := newO X0 hx hZ hown (hw _ (own_w 22 rfl)) (hw _ (own_w 23 rfl)) (hw _ (own_w 24 rfl)) e0 (g := (mkF m 10 #[.val (.ref a1), .val (.long q2), .second, .val (.long q3), .second, .val (.long q4), .second, .val (.long ((q4 - q2) / (2 : Int64))), .second, .unset, .unset] [])) rfl (hb hby d4_10) (by decide) (by decide)
  obtain ⟨b2, g2⟩ : ∃ z, z = h0.size := ⟨_, rfl⟩
  rw [← g2] at A2 D2 st2
  have ne3 : a1 ≠ b2 := Nat.ne_of_lt (Nat.lt_of_lt_of_le pE1.lt (Nat.le_of_eq g2.symm))
  have ne4 : r0 ≠ b2 := Nat.ne_of_lt (Nat.lt_of_lt_of_le pE2.lt (Nat.le_of_eq g2.symm))
  have ge5 : n0 ≤ b2 := Nat.le_trans Z0 (Nat.le_of_eq g2.symm)
  have sz6 : h0.size ≤ b2 := Nat.le_trans kc0.1 (Nat.le_of_eq g2.symm)
  have zs7 : n0 ≤ h2.size := Nat.le_trans Z0 E2.1
  have kc8 : Keep h0 h2 [a1] := kc0.ext E2
  have fd9 : Fld Z h2 b2 "com/example/backplane/backplane/ClusterClock$Sample" "clusterMs" "J" (.long (0 : Int64)) := D2 (Or.inr (hw _ (own_w 35 rfl))) (ty := .long) (by decide)
  have fd10 : Fld Z h2 b2 "com/example/backplane/backplane/ClusterClock$Sample" "atNanos" "J" (.long (0 : Int64)) := D2 (Or.inr (hw _ (own_w 37 rfl))) (ty := .long) (by decide)
  have fd11 : Fld Z h2 b2 "com/example/backplane/backplane/ClusterClock$Sample" "errorNanos" "J" (.long (0 : Int64)) := D2 (Or.inr (hw _ (own_w 39 rfl))) (ty := .long) (by decide)
  have pre12 : own_Go p e below S0 (T2.setTop (mkF m 21 #[.val (.ref a1), .val (.long q2), .second, .val (.long q3), .second, .val (.long q4), .second, .val (.long ((q4 - q2) / (2 : Int64))), .second, .unset, .unset] [(.long ((q4 - q2) / (2 : Int64))), (.long (q2 + ((q4 - q2) / (2 : Int64)))), (.long q3), (.ref b2), (.ref b2)])) := by
    intro t kt
    refine pre1 t ?_
    refine st2 _ ?_
    show Steps p.tables e below (T2.setTop (mkF m 13 #[.val (.ref a1), .val (.long q2), .second, .val (.long q3), .second, .val (.long q4), .second, .val (.long ((q4 - q2) / (2 : Int64))), .second, .unset, .unset] [(.ref b2)])) _
    refine XS.dup X2.here hx rfl (hb hby d4_13) rfl rfl ?_
    show Steps p.tables e below (T2.setTop (mkF m 14 #[.val (.ref a1), .val (.long q2), .second, .val (.long q3), .second, .val (.long q4), .second, .val (.long ((q4 - q2) / (2 : Int64))), .second, .unset, .unset] [(.ref b2), (.ref b2)])) _
    refine XS.lloadN X2.here hx rfl (hb hby d4_14) rfl ?_
    show Steps p.tables e below (T2.setTop (mkF m 15 #[.val (.ref a1), .val (.long q2), .second, .val (.long q3), .second, .val (.long q4), .second, .val (.long ((q4 - q2) / (2 : Int64))), .second, .unset, .unset] [(.long q3), (.ref b2), (.ref b2)])) _
    refine XS.lloadN X2.here hx rfl (hb hby d4_15) rfl ?_
    show Steps p.tables e below (T2.setTop (mkF m 16 #[.val (.ref a1), .val (.long q2), .second, .val (.long q3), .second, .val (.long q4), .second, .val (.long ((q4 - q2) / (2 : Int64))), .second, .unset, .unset] [(.long q2), (.long q3), (.ref b2), (.ref b2)])) _
    refine XS.lload X2.here hx rfl (hb hby d4_16) rfl ?_
    show Steps p.tables e below (T2.setTop (mkF m 18 #[.val (.ref a1), .val (.long q2), .second, .val (.long q3), .second, .val (.long q4), .second, .val (.long ((q4 - q2) / (2 : Int64))), .second, .unset, .unset] [(.long ((q4 - q2) / (2 : Int64))), (.long q2), (.long q3), (.ref b2), (.ref b2)])) _
    refine XS.ladd X2.here hx rfl (hb hby d4_18) rfl ?_
    show Steps p.tables e below (T2.setTop (mkF m 19 #[.val (.ref a1), .val (.long q2), .second, .val (.long q3), .second, .val (.long q4), .second, .val (.long ((q4 - q2) / (2 : Int64))), .second, .unset, .unset] [(.long (q2 + ((q4 - q2) / (2 : Int64)))), (.long q3), (.ref b2), (.ref b2)])) _
    refine XS.lload X2.here hx rfl (hb hby d4_19) rfl ?_
    show Steps p.tables e below (T2.setTop (mkF m 21 #[.val (.ref a1), .val (.long q2), .second, .val (.long q3), .second, .val (.long q4), .second, .val (.long ((q4 - q2) / (2 : Int64))), .second, .unset, .unset] [(.long ((q4 - q2) / (2 : Int64))), (.long (q2 + ((q4 - q2) / (2 : Int64)))), (.long q3), (.ref b2), (.ref b2)])) _
    exact kt
  obtain ⟨_, _, ⟨T13, L13, k13, n13⟩, -, X13, ⟨Lc13, hQ13, l13, y13, z13⟩, st13⟩ := own_specialRef X2 hx hZ (y := (⟨"com/example/backplane/backplane/ClusterClock$Sample", "<init>", "(JJJ)V"⟩ : MethodName)) rfl hown (hw _ (own_w 25 rfl)) (mvT hZ (hw _ (own_w 26 rfl))) (mvT hZ (hw _ (own_w 27 rfl))) (by decide) (backOf (W := 1) (rm5 l Z a0 hw [] b2 q3 (q2 + ((q4 - q2) / (2 : Int64))) ((q4 - q2) / (2 : Int64)) h2 n0 zs7 A2 ge5 fd9 fd10 fd11) hZ (hw _ (own_w 27 rfl)) (hw _ (own_w 24 rfl)) (by decide) (by decide)) (g := (mkF m 21 #[.val (.ref a1), .val (.long q2), .second, .val (.long q3), .second, .val (.long q4), .second, .val (.long ((q4 - q2) / (2 : Int64))), .second, .unset, .unset] [(.long ((q4 - q2) / (2 : Int64))), (.long (q2 + ((q4 - q2) / (2 : Int64)))), (.long q3), (.ref b2), (.ref b2)])) rfl (by rw [hml]; rfl) (a := b2) (argsL := [(.long q3), (.long (q2 + ((q4 - q2) / (2 : Int64)))), (.long ((q4 - q2) / (2 : Int64)))]) (rest := [(.ref b2)]) (lenOf pd_1 rfl) rfl (by show 2 * 0 + _ ≤ _; exact Nat.le_of_eq rfl) (hb hby d4_21) (fun _ _ => ⟨rfl, e2, (by decide : 1 + 0 ≤ _), (by decide : 3 + 0 ≤ _)⟩)
  dsimp only [Pt.U, Pt.locs, Pt.cells, Pt.slots] at X13 l13 y13 z13 st13 hQ13
  subst l13 y13 z13
  obtain ⟨rfl, Nq13, K13, g14, g15, g16, g17⟩ := hQ13
  have N13 := Fr.app N0 Nq13
  have zs18 : n0 ≤ T13.heap.size := Nat.le_trans zs7 K13.1
  have kc19 : Keep h0 T13.heap [a1] := kc8.trans K13 (allS (Or.inr sz6) all0)
  have pre20 : own_Go p e below S0 (T13.setTop (mkF m 27 #[.val (.ref a1), .val (.long q2), .second, .val (.long q3), .second, .val (.long q4), .second, .val (.long ((q4 - q2) / (2 : Int64))), .second, .val (.ref b2), .unset] [(.ref a1)])) := by
    intro t kt
    refine pre12 t ?_
    refine st13.trans ?_
    show Steps p.tables e below (T13.setTop (mkF m 24 #[.val (.ref a1), .val (.long q2), .second, .val (.long q3), .second, .val (.long q4), .second, .val (.long ((q4 - q2) / (2 : Int64))), .second, .unset, .unset] [(.ref b2)])) _
    refine XS.astore X13.here hx rfl (hb hby d4_24) rfl rfl (l' := #[.val (.ref a1), .val (.long q2), .second, .val (.long q3), .second, .val (.long q4), .second, .val (.long ((q4 - q2) / (2 : Int64))), .second, .val (.ref b2), .unset]) rfl ?_
    show Steps p.tables e below (T13.setTop (mkF m 26 #[.val (.ref a1), .val (.long q2), .second, .val (.long q3), .second, .val (.long q4), .second, .val (.long ((q4 - q2) / (2 : Int64))), .second, .val (.ref b2), .unset] [])) _
    refine XS.aloadN X13.here hx rfl (hb hby d4_26) rfl rfl ?_
    show Steps p.tables e below (T13.setTop (mkF m 27 #[.val (.ref a1), .val (.long q2), .second, .val (.long q3), .second, .val (.long q4), .second, .val (.long ((q4 - q2) / (2 : Int64))), .second, .val (.ref b2), .unset] [(.ref a1)])) _
    exact kt
  have f21 : Fld Z T13.heap a1 "com/example/backplane/backplane/ClusterClock" "sample" "Lcom/example/backplane/backplane/ClusterClock$Sample;" (.ref r0) := ((pF1.ext E2).keep K13 (ninS ne3 nin0))
  obtain ⟨T22, X22, e22, st22⟩ := getF X13 hx hZ hown (host := "") (Or.inl (hw _ (own_w 40 rfl))) Via.refl rfl f21 (g := (mkF m 27 #[.val (.ref a1), .val (.long q2), .second, .val (.long q3), .second, .val (.long q4), .second, .val (.long ((q4 - q2) / (2 : Int64))), .second, .val (.ref b2), .unset] [(.ref a1)])) rfl rfl (hb hby d4_27)
  have pre23 : own_Go p e below S0 (T22.setTop (mkF m 39 #[.val (.ref a1), .val (.long q2), .second, .val (.long q3), .second, .val (.long q4), .second, .val (.long ((q4 - q2) / (2 : Int64))), .second, .val (.ref b2), .val (.ref r0)] [(.ref b2)])) := by
    intro t kt
    refine pre20 t ?_
    refine st22 _ ?_
    show Steps p.tables e below (T22.setTop (mkF m 30 #[.val (.ref a1), .val (.long q2), .second, .val (.long q3), .second, .val (.long q4), .second, .val (.long ((q4 - q2) / (2 : Int64))), .second, .val (.ref b2), .unset] [(.ref r0)])) _
    refine XS.astore X22.here hx rfl (hb hby d4_30) rfl rfl (l' := #[.val (.ref a1), .val (.long q2), .second, .val (.long q3), .second, .val (.long q4), .second, .val (.long ((q4 - q2) / (2 : Int64))), .second, .val (.ref b2), .val (.ref r0)]) rfl ?_
    show Steps p.tables e below (T22.setTop (mkF m 32 #[.val (.ref a1), .val (.long q2), .second, .val (.long q3), .second, .val (.long q4), .second, .val (.long ((q4 - q2) / (2 : Int64))), .second, .val (.ref b2), .val (.ref r0)] [])) _
    refine XS.aload X22.here hx rfl (hb hby d4_32) rfl rfl ?_
    show Steps p.tables e below (T22.setTop (mkF m 34 #[.val (.ref a1), .val (.long q2), .second, .val (.long q3), .second, .val (.long q4), .second, .val (.long ((q4 - q2) / (2 : Int64))), .second, .val (.ref b2), .val (.ref r0)] [(.ref r0)])) _
    refine XS.ifnullNo X22.here hx rfl (hb hby d4_34) rfl ?_
    show Steps p.tables e below (T22.setTop (mkF m 37 #[.val (.ref a1), .val (.long q2), .second, .val (.long q3), .second, .val (.long q4), .second, .val (.long ((q4 - q2) / (2 : Int64))), .second, .val (.ref b2), .val (.ref r0)] [])) _
    refine XS.aload X22.here hx rfl (hb hby d4_37) rfl rfl ?_
    show Steps p.tables e below (T22.setTop (mkF m 39 #[.val (.ref a1), .val (.long q2), .second, .val (.long q3), .second, .val (.long q4), .second, .val (.long ((q4 - q2) / (2 : Int64))), .second, .val (.ref b2), .val (.ref r0)] [(.ref b2)])) _
    exact kt
  obtain ⟨cq24, kq24, qa24, qb24, qc24⟩ := isOf hZ e22 g14
  obtain ⟨_, _, ⟨T24, L24, k24, n24⟩, -, X24, ⟨Lc24, hQ24, l24, y24, z24⟩, st24⟩ := X22.virtualBack hx (y := (⟨"com/example/backplane/backplane/ClusterClock$Sample", "errorNanos", "()J"⟩ : MethodName)) (z := (⟨"com/example/backplane/backplane/ClusterClock$Sample", "errorNanos", "()J"⟩ : MethodName)) hown (mvT hZ (hw _ (own_w 61 rfl))) (mvT hZ (hw _ (own_w 62 rfl))) (notFace_of_selects (args := #[]) (mvT hZ (hw _ (own_w 64 rfl)))) (mvT hZ (hw _ (own_w 64 rfl))) (mvT hZ (hw _ (own_w 63 rfl))) (by decide) (backOf (W := 0) (rm11 l Z a0 hw [] b2 ((q4 - q2) / (2 : Int64)) T13.heap n0 zs18 g17) hZ (hw _ (own_w 65 rfl)) (hw _ (own_w 24 rfl)) (by decide) (by decide)) qa24 qc24 (g := (mkF m 39 #[.val (.ref a1), .val (.long q2), .second, .val (.long q3), .second, .val (.long q4), .second, .val (.long ((q4 - q2) / (2 : Int64))), .second, .val (.ref b2), .val (.ref r0)] [(.ref b2)])) rfl (by rw [hml]; rfl) (Steps.refl _) (argsL := []) (rest := []) (lenOf pd_2 rfl) rfl (by show 2 * 0 + _ ≤ _; exact Nat.le_of_eq rfl) (hb hby d4_39) (fun _ _ => ⟨rfl, e22, (by decide : 1 + 0 ≤ _), (by decide : 3 + 0 ≤ _)⟩)
  dsimp only [Pt.U, Pt.locs, Pt.cells, Pt.slots] at X24 l24 y24 z24 st24 hQ24
  subst l24 y24 z24
  obtain ⟨rfl, Nq24, eq24⟩ := hQ24
  have N24 := Fr.app N13 Nq24
  have pre25 : own_Go p e below S0 (T24.setTop (mkF m 46 #[.val (.ref a1), .val (.long q2), .second, .val (.long q3), .second, .val (.long q4), .second, .val (.long ((q4 - q2) / (2 : Int64))), .second, .val (.ref b2), .val (.ref r0)] [(.ref b2), (.ref r0), (.long ((q4 - q2) / (2 : Int64)))])) := by
    intro t kt
    refine pre23 t ?_
    refine st24.trans ?_
    show Steps p.tables e below (T24.setTop (mkF m 42 #[.val (.ref a1), .val (.long q2), .second, .val (.long q3), .second, .val (.long q4), .second, .val (.long ((q4 - q2) / (2 : Int64))), .second, .val (.ref b2), .val (.ref r0)] [(.long ((q4 - q2) / (2 : Int64)))])) _
    refine XS.aload X24.here hx rfl (hb hby d4_42) rfl rfl ?_
    show Steps p.tables e below (T24.setTop (mkF m 44 #[.val (.ref a1), .val (.long q2), .second, .val (.long q3), .second, .val (.long q4), .second, .val (.long ((q4 - q2) / (2 : Int64))), .second, .val (.ref b2), .val (.ref r0)] [(.ref r0), (.long ((q4 - q2) / (2 : Int64)))])) _
    refine XS.aload X24.here hx rfl (hb hby d4_44) rfl rfl ?_
    show Steps p.tables e below (T24.setTop (mkF m 46 #[.val (.ref a1), .val (.long q2), .second, .val (.long q3), .second, .val (.long q4), .second, .val (.long ((q4 - q2) / (2 : Int64))), .second, .val (.ref b2), .val (.ref r0)] [(.ref b2), (.ref r0), (.long ((q4 - q2) / (2 : Int64)))])) _
    exact kt
  obtain ⟨cq26, kq26, qa26, qb26, qc26⟩ := isOf hZ eq24 g14
  obtain ⟨_, _, ⟨T26, L26, k26, n26⟩, -, X26, ⟨Lc26, hQ26, l26, y26, z26⟩, st26⟩ := X24.virtualBack hx (y := (⟨"com/example/backplane/backplane/ClusterClock$Sample", "atNanos", "()J"⟩ : MethodName)) (z := (⟨"com/example/backplane/backplane/ClusterClock$Sample", "atNanos", "()J"⟩ : MethodName)) hown (mvT hZ (hw _ (own_w 52 rfl))) (mvT hZ (hw _ (own_w 53 rfl))) (notFace_of_selects (args := #[]) (mvT hZ (hw _ (own_w 55 rfl)))) (mvT hZ (hw _ (own_w 55 rfl))) (mvT hZ (hw _ (own_w 54 rfl))) (by decide) (backOf (W := 3) (rm9 l Z a0 hw [] b2 (q2 + ((q4 - q2) / (2 : Int64))) T13.heap n0 zs18 g16) hZ (hw _ (own_w 56 rfl)) (hw _ (own_w 24 rfl)) (by decide) (by decide)) qa26 qc26 (g := (mkF m 46 #[.val (.ref a1), .val (.long q2), .second, .val (.long q3), .second, .val (.long q4), .second, .val (.long ((q4 - q2) / (2 : Int64))), .second, .val (.ref b2), .val (.ref r0)] [(.ref b2), (.ref r0), (.long ((q4 - q2) / (2 : Int64)))])) rfl (by rw [hml]; rfl) (Steps.refl _) (argsL := []) (rest := [(.ref r0), (.long ((q4 - q2) / (2 : Int64)))]) (lenOf pd_2 rfl) rfl (by show 2 * 0 + _ ≤ _; exact Nat.le_of_eq rfl) (hb hby d4_46) (fun _ _ => ⟨rfl, eq24, (by decide : 1 + 0 ≤ _), (by decide : 3 + 0 ≤ _)⟩)
  dsimp only [Pt.U, Pt.locs, Pt.cells, Pt.slots] at X26 l26 y26 z26 st26 hQ26
  subst l26 y26 z26
  obtain ⟨rfl, Nq26, eq26⟩ := hQ26
  have N26 := Fr.app N24 Nq26
  have pre27 : own_Go p e below S0 (T26.setTop (mkF m 49 #[.val (.ref a1), .val (.long q2), .second, .val (.long q3), .second, .val (.long q4), .second, .val (.long ((q4 - q2) / (2 : Int64))), .second, .val (.ref b2), .val (.ref r0)] [(.long (q2 + ((q4 - q2) / (2 : Int64)))), (.ref r0), (.long ((q4 - q2) / (2 : Int64)))])) := by
    intro t kt
    refine pre25 t ?_
    refine st26.trans ?_
    show Steps p.tables e below (T26.setTop (mkF m 49 #[.val (.ref a1), .val (.long q2), .second, .val (.long q3), .second, .val (.long q4), .second, .val (.long ((q4 - q2) / (2 : Int64))), .second, .val (.ref b2), .val (.ref r0)] [(.long (q2 + ((q4 - q2) / (2 : Int64)))), (.ref r0), (.long ((q4 - q2) / (2 : Int64)))])) _
    exact kt
  have f28 : Fld Z T13.heap r0 "com/example/backplane/backplane/ClusterClock$Sample" "atNanos" "J" (.long u2) := ((pG1.ext E2).keep K13 (ninS ne4 nin0))
  have f29 : Fld Z T13.heap r0 "com/example/backplane/backplane/ClusterClock$Sample" "errorNanos" "J" (.long u3) := ((pG2.ext E2).keep K13 (ninS ne4 nin0))
  have f31 : Exa Z T13.heap r0 "com/example/backplane/backplane/ClusterClock$Sample" := ((pE2.ext E2).keep K13)
  obtain ⟨cq30, kq30, qa30, qb30, qc30⟩ := isOf hZ eq26 f31
  obtain ⟨_, _, ⟨T30, L30, k30, n30⟩, -, X30, ⟨Lc30, hQ30, l30, y30, z30⟩, st30⟩ := X26.virtualBack hx (y := (⟨"com/example/backplane/backplane/ClusterClock$Sample", "errorAt", "(J)J"⟩ : MethodName)) (z := (⟨"com/example/backplane/backplane/ClusterClock$Sample", "errorAt", "(J)J"⟩ : MethodName)) hown (mvT hZ (hw _ (own_w 66 rfl))) (mvT hZ (hw _ (own_w 67 rfl))) (notFace_of_selects (args := #[]) (mvT hZ (hw _ (own_w 69 rfl)))) (mvT hZ (hw _ (own_w 69 rfl))) (mvT hZ (hw _ (own_w 68 rfl))) (by decide) (backOf (W := 2) (rm12 l Z a0 hw [] r0 (q2 + ((q4 - q2) / (2 : Int64))) u2 u3 T13.heap n0 zs18 f28 f29 hX) hZ (hw _ (own_w 70 rfl)) (hw _ (own_w 24 rfl)) (by decide) (by decide)) qa30 qc30 (g := (mkF m 49 #[.val (.ref a1), .val (.long q2), .second, .val (.long q3), .second, .val (.long q4), .second, .val (.long ((q4 - q2) / (2 : Int64))), .second, .val (.ref b2), .val (.ref r0)] [(.long (q2 + ((q4 - q2) / (2 : Int64)))), (.ref r0), (.long ((q4 - q2) / (2 : Int64)))])) rfl (by rw [hml]; rfl) (Steps.refl _) (argsL := [(.long (q2 + ((q4 - q2) / (2 : Int64))))]) (rest := [(.long ((q4 - q2) / (2 : Int64)))]) (lenOf pd_3 rfl) rfl (by show 2 * 0 + _ ≤ _; exact Nat.le_of_eq rfl) (hb hby d4_49) (fun _ _ => ⟨rfl, eq26, (by decide : 1 + 0 ≤ _), (by decide : 3 + 0 ≤ _)⟩)
  dsimp only [Pt.U, Pt.locs, Pt.cells, Pt.slots] at X30 l30 y30 z30 st30 hQ30
  subst l30 y30 z30
  obtain ⟨rfl, Nq30, eq30⟩ := hQ30
  have N30 := Fr.app N26 Nq30
  have pre33 : own_Go p e below S0 (T30.setTop (mkF m 53 #[.val (.ref a1), .val (.long q2), .second, .val (.long q3), .second, .val (.long q4), .second, .val (.long ((q4 - q2) / (2 : Int64))), .second, .val (.ref b2), .val (.ref r0)] [(.int (lcmpW ((q4 - q2) / (2 : Int64)) (u3 + (own_X ((q2 + ((q4 - q2) / (2 : Int64))) - u2)))))])) := by
    intro t kt
    refine pre27 t ?_
    refine st30.trans ?_
    show Steps p.tables e below (T30.setTop (mkF m 52 #[.val (.ref a1), .val (.long q2), .second, .val (.long q3), .second, .val (.long q4), .second, .val (.long ((q4 - q2) / (2 : Int64))), .second, .val (.ref b2), .val (.ref r0)] [(.long (u3 + (own_X ((q2 + ((q4 - q2) / (2 : Int64))) - u2)))), (.long ((q4 - q2) / (2 : Int64)))])) _
    refine XS.lcmp X30.here hx rfl (hb hby d4_52) rfl ?_
    show Steps p.tables e below (T30.setTop (mkF m 53 #[.val (.ref a1), .val (.long q2), .second, .val (.long q3), .second, .val (.long q4), .second, .val (.long ((q4 - q2) / (2 : Int64))), .second, .val (.ref b2), .val (.ref r0)] [(.int (lcmpW ((q4 - q2) / (2 : Int64)) (u3 + (own_X ((q2 + ((q4 - q2) / (2 : Int64))) - u2)))))])) _
    exact kt
  by_cases hc32 : (u3 + (own_X ((q2 + ((q4 - q2) / (2 : Int64))) - u2))) < ((q4 - q2) / (2 : Int64))
  · have pre34 : own_Go p e below S0 (T30.setTop (mkF m 62 #[.val (.ref a1), .val (.long q2), .second, .val (.long q3), .second, .val (.long q4), .second, .val (.long ((q4 - q2) / (2 : Int64))), .second, .val (.ref b2), .val (.ref r0)] [])) := by
      intro t kt
      refine pre33 t ?_
      refine XS.ifYes X30.here hx rfl (pc0 := 53) (pc' := 62) rfl (hb hby d4_53) rfl ((if0 _ _).trans (tlt ((lw_gt _ _).mpr hc32)).2.2.1) (by decide) (by decide) ?_
      show Steps p.tables e below (T30.setTop (mkF m 62 #[.val (.ref a1), .val (.long q2), .second, .val (.long q3), .second, .val (.long q4), .second, .val (.long ((q4 - q2) / (2 : Int64))), .second, .val (.ref b2), .val (.ref r0)] [])) _
      exact kt
    have f35 : Fld Z T13.heap r0 "com/example/backplane/backplane/ClusterClock$Sample" "clusterMs" "J" (.long u1) := ((pG0.ext E2).keep K13 (ninS ne4 nin0))
    obtain ⟨fs, hr, hrun, hended, hW, hsame⟩ := X30.leave (v := none) (fun _ => rfl)
    refine ⟨_, _, fin _ (pre34 _ ?_), hrun, hended, _, _, rfl, ?_, ⟨_, rfl⟩, hW, hsame.mono (by decide) (by decide)⟩
    · exact X30.returnOut hx Bd.returns (hb hby d4_62) hr
    have f36 : Exa Z T13.heap a1 "com/example/backplane/backplane/ClusterClock" := ((pE1.ext E2).keep K13)
    · show Qsm2 Z a1 q2 q3 q4 r0 u1 u2 u3 h0 n0 _ T30.heap _
      rw [eq30]
      exact ⟨r0, rfl, N30, kc19, f36, f21, f31, (by rw [if_pos hc32]; exact f35), (by rw [if_pos hc32]; exact f28)⟩
  · have pre37 : own_Go p e below S0 (T30.setTop (mkF m 59 #[.val (.ref a1), .val (.long q2), .second, .val (.long q3), .second, .val (.long q4), .second, .val (.long ((q4 - q2) / (2 : Int64))), .second, .val (.ref b2), .val (.ref r0)] [(.ref b2), (.ref a1)])) := by
      intro t kt
      refine pre33 t ?_
      refine XS.ifNo X30.here hx rfl (hb hby d4_53) rfl ((if0 _ _).trans (flt (fun q => hc32 ((lw_gt _ _).mp q))).2.2.1) ?_
      show Steps p.tables e below (T30.setTop (mkF m 56 #[.val (.ref a1), .val (.long q2), .second, .val (.long q3), .second, .val (.long q4), .second, .val (.long ((q4 - q2) / (2 : Int64))), .second, .val (.ref b2), .val (.ref r0)] [])) _
      refine XS.aloadN X30.here hx rfl (hb hby d4_56) rfl rfl ?_
      show Steps p.tables e below (T30.setTop (mkF m 57 #[.val (.ref a1), .val (.long q2), .second, .val (.long q3), .second, .val (.long q4), .second, .val (.long ((q4 - q2) / (2 : Int64))), .second, .val (.ref b2), .val (.ref r0)] [(.ref a1)])) _
      refine XS.aload X30.here hx rfl (hb hby d4_57) rfl rfl ?_
      show Steps p.tables e below (T30.setTop (mkF m 59 #[.val (.ref a1), .val (.long q2), .second, .val (.long q3), .second, .val (.long q4), .second, .val (.long ((q4 - q2) / (2 : Int64))), .second, .val (.ref b2), .val (.ref r0)] [(.ref b2), (.ref a1)])) _
      exact kt
    have f38 : Exa Z T13.heap a1 "com/example/backplane/backplane/ClusterClock" := ((pE1.ext E2).keep K13)
    obtain ⟨T39, h39, X39, e39, W39, st39⟩ := putF X30 hx hZ hown (host := "") (Or.inl (hw _ (own_w 40 rfl))) Via.refl eq30 f21 f38 (Or.inl (hw _ (own_w 41 rfl))) (hw _ (own_w 8 rfl)) (ty := (.object "com/example/backplane/backplane/ClusterClock$Sample")) (by decide) rfl rfl (g := (mkF m 59 #[.val (.ref a1), .val (.long q2), .second, .val (.long q3), .second, .val (.long q4), .second, .val (.long ((q4 - q2) / (2 : Int64))), .second, .val (.ref b2), .val (.ref r0)] [(.ref b2), (.ref a1)])) rfl rfl (hb hby d4_59)
    have N39 := Fr.snoc X39 N30 pg1
    have zs40 : n0 ≤ h39.size := Nat.le_trans zs18 (Keep.of_wr W39).1
    have kc41 : Keep h0 h39 [a1] := kc19.wr W39 (Or.inl (List.mem_of_getElem? (i := 0) rfl))
    have fw39 : Fld Z h39 a1 "com/example/backplane/backplane/ClusterClock" "sample" "Lcom/example/backplane/backplane/ClusterClock$Sample;" (.ref b2) := f21.same W39
    have pre42 : own_Go p e below S0 (T39.setTop (mkF m 62 #[.val (.ref a1), .val (.long q2), .second, .val (.long q3), .second, .val (.long q4), .second, .val (.long ((q4 - q2) / (2 : Int64))), .second, .val (.ref b2), .val (.ref r0)] [])) := by
      intro t kt
      refine pre37 t ?_
      refine st39 _ ?_
      show Steps p.tables e below (T39.setTop (mkF m 62 #[.val (.ref a1), .val (.long q2), .second, .val (.long q3), .second, .val (.long q4), .second, .val (.long ((q4 - q2) / (2 : Int64))), .second, .val (.ref b2), .val (.ref r0)] [])) _
      exact kt
    have f43 : Exa Z h39 b2 "com/example/backplane/backplane/ClusterClock$Sample" := (g14.wr W39)
    have f44 : Fld Z h39 b2 "com/example/backplane/backplane/ClusterClock$Sample" "clusterMs" "J" (.long q3) := (g15.other W39 (Or.inl (Ne.symm ne3)))
    have f45 : Fld Z h39 b2 "com/example/backplane/backplane/ClusterClock$Sample" "atNanos" "J" (.long (q2 + ((q4 - q2) / (2 : Int64)))) := (g16.other W39 (Or.inl (Ne.symm ne3)))
    obtain ⟨fs, hr, hrun, hended, hW, hsame⟩ := X39.leave (v := none) (fun _ => rfl)
    refine ⟨_, _, fin _ (pre42 _ ?_), hrun, hended, _, _, rfl, ?_, ⟨_, rfl⟩, hW, hsame.mono (by decide) (by decide)⟩
    · exact X39.returnOut hx Bd.returns (hb hby d4_62) hr
    have f46 : Exa Z h39 a1 "com/example/backplane/backplane/ClusterClock" := (f38.wr W39)
    · show Qsm2 Z a1 q2 q3 q4 r0 u1 u2 u3 h0 n0 _ T39.heap _
      rw [e39]
      exact ⟨b2, rfl, N39, kc41, f46, fw39, f43, (by rw [if_neg hc32]; exact f44), (by rw [if_neg hc32]; exact f45)⟩

theorem d10_0 : decode jdk_29_method_49_code 0 = .ok (.lload_n 0, 1) := by decide +kernel
theorem d10_1 : decode jdk_29_method_49_code 1 = .ok (.lload_n 2, 1) := by decide +kernel
theorem d10_2 : decode jdk_29_method_49_code 2 = .ok (.ldiv, 1) := by decide +kernel
theorem d10_3 : decode jdk_29_method_49_code 3 = .ok (.lstore 4, 2) := by decide +kernel
theorem d10_5 : decode jdk_29_method_49_code 5 = .ok (.lload_n 0, 1) := by decide +kernel
theorem d10_6 : decode jdk_29_method_49_code 6 = .ok (.lload_n 2, 1) := by decide +kernel
theorem d10_7 : decode jdk_29_method_49_code 7 = .ok (.lxor, 1) := by decide +kernel
theorem d10_8 : decode jdk_29_method_49_code 8 = .ok (.lconst 0, 1) := by decide +kernel
theorem d10_9 : decode jdk_29_method_49_code 9 = .ok (.lcmp, 1) := by decide +kernel
theorem d10_10 : decode jdk_29_method_49_code 10 = .ok (.ifCond .ge 17, 3) := by decide +kernel
theorem d10_13 : decode jdk_29_method_49_code 13 = .ok (.lload 4, 2) := by decide +kernel
theorem d10_15 : decode jdk_29_method_49_code 15 = .ok (.lload_n 2, 1) := by decide +kernel
theorem d10_16 : decode jdk_29_method_49_code 16 = .ok (.lmul, 1) := by decide +kernel
theorem d10_17 : decode jdk_29_method_49_code 17 = .ok (.lload_n 0, 1) := by decide +kernel
theorem d10_18 : decode jdk_29_method_49_code 18 = .ok (.lcmp, 1) := by decide +kernel
theorem d10_19 : decode jdk_29_method_49_code 19 = .ok (.ifCond .eq 8, 3) := by decide +kernel
theorem d10_22 : decode jdk_29_method_49_code 22 = .ok (.lload 4, 2) := by decide +kernel
theorem d10_24 : decode jdk_29_method_49_code 24 = .ok (.lconst 1, 1) := by decide +kernel
theorem d10_25 : decode jdk_29_method_49_code 25 = .ok (.lsub, 1) := by decide +kernel
theorem d10_26 : decode jdk_29_method_49_code 26 = .ok (.lreturn, 1) := by decide +kernel
theorem d10_27 : decode jdk_29_method_49_code 27 = .ok (.lload 4, 2) := by decide +kernel
theorem d10_29 : decode jdk_29_method_49_code 29 = .ok (.lreturn, 1) := by decide +kernel
theorem ef_10 (m : MethodId) (x0 : Int64) (x1 : Int64) : entryFrame m #[(.long x0), (.long x1)] 6 = mkF m 0 #[.val (.long x0), .second, .val (.long x1), .second, .unset, .unset] [] := by first | (simp [entryFrame, mkF, argsToLocals, Value.category]; done) | rfl
def own_fd (q1 : Int64) (q2 : Int64) : Int64 := (if (q1 ^^^ q2) < (0 : Int64) then (if ((q1 / q2) * q2) = q1 then (q1 / q2) else ((q1 / q2) - (1 : Int64))) else (q1 / q2))
def Q10 (Z : State) (q1 : Int64) (q2 : Int64) (h0 : Heap) (n0 : Nat) (v : Option Value) (h : Heap) (L : List Loc) : Prop := v = (some (.long (own_fd q1 q2))) ∧ Fr n0 L ∧ h = h0
set_option maxRecDepth 65536 in
set_option maxHeartbeats 40000000 in
theorem rm10 (l : Launch) (Z : State) (a0 : Array Value) (hw : ∀ d ∈ tables_1, d.before a0 Z = true) (ws : List Jvm.Cond) (q1 : Int64) (q2 : Int64) (h0 : Heap) (n0 : Nat) (Z0 : n0 ≤ h0.size) (hz : (¬ q2 = (0 : Int64))) :
    MetFree l (⟨"java/lang/Math", "floorDiv", "(JJ)J"⟩ : MethodName) (head1 (Jvm.Cond.code (⟨"java/lang/Math", "floorDiv", "(JJ)J"⟩ : MethodName) jdk_29_method_49_code 6 (some .long) :: ws) ({ frames := 0, cells := 0, slots := 0, locals := 0 } : Room)) (fun a U => a = #[(.long q1), (.long q2)] ∧ Z.Warmed39 U.vm ∧ U.heap = h0) (fun _ _ _ _ _ => True) (fun _ U o U' => ∃ v L, o = .returned v ∧ Q10 Z q1 q2 h0 n0 v U'.heap L ∧ FrameEnd U o U' L ({ frames := 0, cells := 0, slots := 0, locals := 0 } : Room).cells ({ frames := 0, cells := 0, slots := 0, locals := 0 } : Room).slots) := by
  refine MetFree.of_bodySF (Jvm.Free.JP.mathPlain rfl (by decide +kernel)) hisR ?_
  intro p e s m args below meth c s₁ Bd hml0 hP hK
  obtain ⟨rfl, hZ, hh⟩ := hP
  have hx := Bd.exec
  have hby := Bd.bytes
  have hml : c.maxLocals = 6 := hml0
  have hown0 := findClass_of_methodNamed Bd.named
  have hown : s.vm.findClass "java/lang/Math" = some m.cls := hown0
  have hnm := (name_of_methodNamed Bd.named Bd.method).1
  have X0 : Stand p l e ({ frames := 0, cells := 0, slots := 0, locals := 0 } : Room) s m #[(.long q1), (.long q2)] below meth c s₁ [] 0 0 := Stand.of_body Bd
  have e0 : s₁.heap = h0 := by rw [← hh, Bd.state]; rfl
  have N0 := Fr.nil n0
  obtain ⟨S0, hS0⟩ : ∃ z, z = s₁.setTop (entryFrame m #[(.long q1), (.long q2)] 6) := ⟨_, rfl⟩
  have pre0 : own_Go p e below S0 (s₁.setTop (mkF m 0 #[.val (.long q1), .second, .val (.long q2), .second, .unset, .unset] [])) := fun t k => by rw [hS0]; exact castTop (ef_10 m q1 q2) k
  have fin : ∀ t, Steps p.tables e below S0 t → Steps p.tables e below (s₁.setTop (entryFrame m #[(.long q1), (.long q2)] 6)) t := fun t k => by rw [hS0] at k; exact k
  have pre2 : own_Go p e below S0 (s₁.setTop (mkF m 10 #[.val (.long q1), .second, .val (.long q2), .second, .val (.long (q1 / q2)), .second] [(.int (lcmpW (q1 ^^^ q2) (0 : Int64)))])) := by
    intro t kt
    refine pre0 t ?_
    refine XS.lloadN X0.here hx rfl (hb hby d10_0) rfl ?_
    show Steps p.tables e below (s₁.setTop (mkF m 1 #[.val (.long q1), .second, .val (.long q2), .second, .unset, .unset] [(.long q1)])) _
    refine XS.lloadN X0.here hx rfl (hb hby d10_1) rfl ?_
    show Steps p.tables e below (s₁.setTop (mkF m 2 #[.val (.long q1), .second, .val (.long q2), .second, .unset, .unset] [(.long q2), (.long q1)])) _
    refine XS.ldiv X0.here hx rfl (hb hby d10_2) rfl hz ?_
    show Steps p.tables e below (s₁.setTop (mkF m 3 #[.val (.long q1), .second, .val (.long q2), .second, .unset, .unset] [(.long (q1 / q2))])) _
    refine XS.lstore X0.here hx rfl (hb hby d10_3) rfl (l' := #[.val (.long q1), .second, .val (.long q2), .second, .val (.long (q1 / q2)), .second]) rfl ?_
    show Steps p.tables e below (s₁.setTop (mkF m 5 #[.val (.long q1), .second, .val (.long q2), .second, .val (.long (q1 / q2)), .second] [])) _
    refine XS.lloadN X0.here hx rfl (hb hby d10_5) rfl ?_
    show Steps p.tables e below (s₁.setTop (mkF m 6 #[.val (.long q1), .second, .val (.long q2), .second, .val (.long (q1 / q2)), .second] [(.long q1)])) _
    refine XS.lloadN X0.here hx rfl (hb hby d10_6) rfl ?_
    show Steps p.tables e below (s₁.setTop (mkF m 7 #[.val (.long q1), .second, .val (.long q2), .second, .val (.long (q1 / q2)), .second] [(.long q2), (.long q1)])) _
    refine XS.lxor X0.here hx rfl (hb hby d10_7) rfl ?_
    show Steps p.tables e below (s₁.setTop (mkF m 8 #[.val (.long q1), .second, .val (.long q2), .second, .val (.long (q1 / q2)), .second] [(.long (q1 ^^^ q2))])) _
    refine XS.lconst X0.here hx rfl (hb hby d10_8) ?_
    show Steps p.tables e below (s₁.setTop (mkF m 9 #[.val (.long q1), .second, .val (.long q2), .second, .val (.long (q1 / q2)), .second] [(.long (0 : Int64)), (.long (q1 ^^^ q2))])) _
    refine XS.lcmp X0.here hx rfl (hb hby d10_9) rfl ?_
    show Steps p.tables e below (s₁.setTop (mkF m 10 #[.val (.long q1), .second, .val (.long q2), .second, .val (.long (q1 / q2)), .second] [(.int (lcmpW (q1 ^^^ q2) (0 : Int64)))])) _
    exact kt
  by_cases hc1 : (q1 ^^^ q2) < (0 : Int64)
  · have pre4 : own_Go p e below S0 (s₁.setTop (mkF m 19 #[.val (.long q1), .second, .val (.long q2), .second, .val (.long (q1 / q2)), .second] [(.int (lcmpW ((q1 / q2) * q2) q1))])) := by
      intro t kt
      refine pre2 t ?_
      refine XS.ifNo X0.here hx rfl (hb hby d10_10) rfl ((if0 _ _).trans (tlt ((lw_lt _ _).mpr hc1)).2.1) ?_
      show Steps p.tables e below (s₁.setTop (mkF m 13 #[.val (.long q1), .second, .val (.long q2), .second, .val (.long (q1 / q2)), .second] [])) _
      refine XS.lload X0.here hx rfl (hb hby d10_13) rfl ?_
      show Steps p.tables e below (s₁.setTop (mkF m 15 #[.val (.long q1), .second, .val (.long q2), .second, .val (.long (q1 / q2)), .second] [(.long (q1 / q2))])) _
      refine XS.lloadN X0.here hx rfl (hb hby d10_15) rfl ?_
      show Steps p.tables e below (s₁.setTop (mkF m 16 #[.val (.long q1), .second, .val (.long q2), .second, .val (.long (q1 / q2)), .second] [(.long q2), (.long (q1 / q2))])) _
      refine XS.lmul X0.here hx rfl (hb hby d10_16) rfl ?_
      show Steps p.tables e below (s₁.setTop (mkF m 17 #[.val (.long q1), .second, .val (.long q2), .second, .val (.long (q1 / q2)), .second] [(.long ((q1 / q2) * q2))])) _
      refine XS.lloadN X0.here hx rfl (hb hby d10_17) rfl ?_
      show Steps p.tables e below (s₁.setTop (mkF m 18 #[.val (.long q1), .second, .val (.long q2), .second, .val (.long (q1 / q2)), .second] [(.long q1), (.long ((q1 / q2) * q2))])) _
      refine XS.lcmp X0.here hx rfl (hb hby d10_18) rfl ?_
      show Steps p.tables e below (s₁.setTop (mkF m 19 #[.val (.long q1), .second, .val (.long q2), .second, .val (.long (q1 / q2)), .second] [(.int (lcmpW ((q1 / q2) * q2) q1))])) _
      exact kt
    by_cases hc3 : ((q1 / q2) * q2) = q1
    · have pre5 : own_Go p e below S0 (s₁.setTop (mkF m 29 #[.val (.long q1), .second, .val (.long q2), .second, .val (.long (q1 / q2)), .second] [(.long (q1 / q2))])) := by
        intro t kt
        refine pre4 t ?_
        refine XS.ifYes X0.here hx rfl (pc0 := 19) (pc' := 27) rfl (hb hby d10_19) rfl ((if0 _ _).trans (teq ((lw_eq _ _).mpr hc3)).1) (by decide) (by decide) ?_
        show Steps p.tables e below (s₁.setTop (mkF m 27 #[.val (.long q1), .second, .val (.long q2), .second, .val (.long (q1 / q2)), .second] [])) _
        refine XS.lload X0.here hx rfl (hb hby d10_27) rfl ?_
        show Steps p.tables e below (s₁.setTop (mkF m 29 #[.val (.long q1), .second, .val (.long q2), .second, .val (.long (q1 / q2)), .second] [(.long (q1 / q2))])) _
        exact kt
      obtain ⟨fs, hr, hrun, hended, hW, hsame⟩ := X0.leave (v := some (.long (q1 / q2))) (fun h => by rw [Bd.returns] at h; cases h)
      refine ⟨_, _, fin _ (pre5 _ ?_), hrun, hended, _, _, rfl, ?_, ⟨_, rfl⟩, hW, hsame.mono (by decide) (by decide)⟩
      · jvm_step X0.here [X0.here.top, hx, (hb hby d10_29), X0.method', Bd.returns, narrow]
        first | (intro acts; rw [hr _ acts rfl rfl rfl]) | rw [hr _ _ rfl rfl rfl]
        exact Steps.refl _
      · show Q10 Z q1 q2 h0 n0 _ s₁.heap _
        rw [e0]
        exact ⟨(by show some _ = some _; rw [own_fd, if_pos hc1, if_pos hc3]), N0, rfl⟩
    · have pre6 : own_Go p e below S0 (s₁.setTop (mkF m 26 #[.val (.long q1), .second, .val (.long q2), .second, .val (.long (q1 / q2)), .second] [(.long ((q1 / q2) - (1 : Int64)))])) := by
        intro t kt
        refine pre4 t ?_
        refine XS.ifNo X0.here hx rfl (hb hby d10_19) rfl ((if0 _ _).trans (feq (fun q => hc3 ((lw_eq _ _).mp q))).1) ?_
        show Steps p.tables e below (s₁.setTop (mkF m 22 #[.val (.long q1), .second, .val (.long q2), .second, .val (.long (q1 / q2)), .second] [])) _
        refine XS.lload X0.here hx rfl (hb hby d10_22) rfl ?_
        show Steps p.tables e below (s₁.setTop (mkF m 24 #[.val (.long q1), .second, .val (.long q2), .second, .val (.long (q1 / q2)), .second] [(.long (q1 / q2))])) _
        refine XS.lconst X0.here hx rfl (hb hby d10_24) ?_
        show Steps p.tables e below (s₁.setTop (mkF m 25 #[.val (.long q1), .second, .val (.long q2), .second, .val (.long (q1 / q2)), .second] [(.long (1 : Int64)), (.long (q1 / q2))])) _
        refine XS.lsub X0.here hx rfl (hb hby d10_25) rfl ?_
        show Steps p.tables e below (s₁.setTop (mkF m 26 #[.val (.long q1), .second, .val (.long q2), .second, .val (.long (q1 / q2)), .second] [(.long ((q1 / q2) - (1 : Int64)))])) _
        exact kt
      obtain ⟨fs, hr, hrun, hended, hW, hsame⟩ := X0.leave (v := some (.long ((q1 / q2) - (1 : Int64)))) (fun h => by rw [Bd.returns] at h; cases h)
      refine ⟨_, _, fin _ (pre6 _ ?_), hrun, hended, _, _, rfl, ?_, ⟨_, rfl⟩, hW, hsame.mono (by decide) (by decide)⟩
      · jvm_step X0.here [X0.here.top, hx, (hb hby d10_26), X0.method', Bd.returns, narrow]
        first | (intro acts; rw [hr _ acts rfl rfl rfl]) | rw [hr _ _ rfl rfl rfl]
        exact Steps.refl _
      · show Q10 Z q1 q2 h0 n0 _ s₁.heap _
        rw [e0]
        exact ⟨(by show some _ = some _; rw [own_fd, if_pos hc1, if_neg hc3]), N0, rfl⟩
  · have pre7 : own_Go p e below S0 (s₁.setTop (mkF m 29 #[.val (.long q1), .second, .val (.long q2), .second, .val (.long (q1 / q2)), .second] [(.long (q1 / q2))])) := by
      intro t kt
      refine pre2 t ?_
      refine XS.ifYes X0.here hx rfl (pc0 := 10) (pc' := 27) rfl (hb hby d10_10) rfl ((if0 _ _).trans (flt (fun q => hc1 ((lw_lt _ _).mp q))).2.1) (by decide) (by decide) ?_
      show Steps p.tables e below (s₁.setTop (mkF m 27 #[.val (.long q1), .second, .val (.long q2), .second, .val (.long (q1 / q2)), .second] [])) _
      refine XS.lload X0.here hx rfl (hb hby d10_27) rfl ?_
      show Steps p.tables e below (s₁.setTop (mkF m 29 #[.val (.long q1), .second, .val (.long q2), .second, .val (.long (q1 / q2)), .second] [(.long (q1 / q2))])) _
      exact kt
    obtain ⟨fs, hr, hrun, hended, hW, hsame⟩ := X0.leave (v := some (.long (q1 / q2))) (fun h => by rw [Bd.returns] at h; cases h)
    refine ⟨_, _, fin _ (pre7 _ ?_), hrun, hended, _, _, rfl, ?_, ⟨_, rfl⟩, hW, hsame.mono (by decide) (by decide)⟩
    · jvm_step X0.here [X0.here.top, hx, (hb hby d10_29), X0.method', Bd.returns, narrow]
      first | (intro acts; rw [hr _ acts rfl rfl rfl]) | rw [hr _ _ rfl rfl rfl]
      exact Steps.refl _
    · show Q10 Z q1 q2 h0 n0 _ s₁.heap _
      rw [e0]
      exact ⟨(by show some _ = some _; rw [own_fd, if_neg hc1]), N0, rfl⟩

theorem d7_0 : decode prog_1_method_5_code 0 = .ok (.aload_n 0, 1) := by decide +kernel
theorem d7_1 : decode prog_1_method_5_code 1 = .ok (.getfield 30, 3) := by decide +kernel
theorem d7_4 : decode prog_1_method_5_code 4 = .ok (.astore_n 3, 1) := by decide +kernel
theorem d7_5 : decode prog_1_method_5_code 5 = .ok (.aload_n 3, 1) := by decide +kernel
theorem d7_6 : decode prog_1_method_5_code 6 = .ok (.invokevirtual 46, 3) := by decide +kernel
theorem d7_9 : decode prog_1_method_5_code 9 = .ok (.lload_n 1, 1) := by decide +kernel
theorem d7_10 : decode prog_1_method_5_code 10 = .ok (.aload_n 3, 1) := by decide +kernel
theorem d7_11 : decode prog_1_method_5_code 11 = .ok (.invokevirtual 36, 3) := by decide +kernel
theorem d7_14 : decode prog_1_method_5_code 14 = .ok (.lsub, 1) := by decide +kernel
theorem d7_15 : decode prog_1_method_5_code 15 = .ok (.ldc2_w 49, 3) := by decide +kernel
theorem d7_18 : decode prog_1_method_5_code 18 = .ok (.invokestatic 51, 3) := by decide +kernel
theorem d7_21 : decode prog_1_method_5_code 21 = .ok (.ladd, 1) := by decide +kernel
theorem d7_22 : decode prog_1_method_5_code 22 = .ok (.lreturn, 1) := by decide +kernel
theorem pn_7 : plainName "com/example/backplane/backplane/ClusterClock" = true := by first | (simp [plainName, overriddenIn]; done) | decide +kernel
theorem pd_4 : parseMethodDescriptor "(JJ)J" = some ⟨[.long, .long], some .long⟩ := by decide +kernel
theorem ef_7 (m : MethodId) (x0 : Addr) (x1 : Int64) : entryFrame m #[(.ref x0), (.long x1)] 4 = mkF m 0 #[.val (.ref x0), .val (.long x1), .second, .unset] [] := by first | (simp [entryFrame, mkF, argsToLocals, Value.category]; done) | rfl
def Q7 (Z : State) (a1 : Addr) (q2 : Int64) (b : Addr) (u1 : Int64) (u2 : Int64) (h0 : Heap) (n0 : Nat) (v : Option Value) (h : Heap) (L : List Loc) : Prop := v = (some (.long (u1 + (own_fd (q2 - u2) (1000000 : Int64))))) ∧ Fr n0 L ∧ h = h0
set_option maxRecDepth 65536 in
set_option maxHeartbeats 40000000 in
theorem rm7 (l : Launch) (Z : State) (a0 : Array Value) (hw : ∀ d ∈ tables_1, d.before a0 Z = true) (ws : List Jvm.Cond) (a1 : Addr) (q2 : Int64) (b : Addr) (u1 : Int64) (u2 : Int64) (h0 : Heap) (n0 : Nat) (Z0 : n0 ≤ h0.size) (pF1 : Fld Z h0 a1 "com/example/backplane/backplane/ClusterClock" "sample" "Lcom/example/backplane/backplane/ClusterClock$Sample;" (.ref b)) (pE2 : Exa Z h0 b "com/example/backplane/backplane/ClusterClock$Sample") (pF2 : Fld Z h0 b "com/example/backplane/backplane/ClusterClock$Sample" "clusterMs" "J" (.long u1)) (pF3 : Fld Z h0 b "com/example/backplane/backplane/ClusterClock$Sample" "atNanos" "J" (.long u2)) :
    MetFree l (⟨"com/example/backplane/backplane/ClusterClock", "at", "(J)J"⟩ : MethodName) (head1 (Jvm.Cond.code (⟨"com/example/backplane/backplane/ClusterClock", "at", "(J)J"⟩ : MethodName) prog_1_method_5_code 4 (some .long) :: ws) ({ frames := 1, cells := 0, slots := 0, locals := 19 } : Room)) (fun a U => a = #[(.ref a1), (.long q2)] ∧ Z.Warmed39 U.vm ∧ U.heap = h0) (fun _ _ _ _ _ => True) (fun _ U o U' => ∃ v L, o = .returned v ∧ Q7 Z a1 q2 b u1 u2 h0 n0 v U'.heap L ∧ FrameEnd U o U' L ({ frames := 1, cells := 0, slots := 0, locals := 19 } : Room).cells ({ frames := 1, cells := 0, slots := 0, locals := 19 } : Room).slots) := by
  refine MetFree.of_bodySF (plainFor_of_name pn_7) hisR ?_
  intro p e s m args below meth c s₁ Bd hml0 hP hK
  obtain ⟨rfl, hZ, hh⟩ := hP
  have hx := Bd.exec
  have hby := Bd.bytes
  have hml : c.maxLocals = 4 := hml0
  have hown0 := findClass_of_methodNamed Bd.named
  have hown : s.vm.findClass "com/example/backplane/backplane/ClusterClock" = some m.cls := hown0
  have hnm := (name_of_methodNamed Bd.named Bd.method).1
  have X0 : Stand p l e ({ frames := 1, cells := 0, slots := 0, locals := 19 } : Room) s m #[(.ref a1), (.long q2)] below meth c s₁ [] 0 0 := Stand.of_body Bd
  have e0 : s₁.heap = h0 := by rw [← hh, Bd.state]; rfl
  have N0 := Fr.nil n0
  obtain ⟨S0, hS0⟩ : ∃ z, z = s₁.setTop (entryFrame m #[(.ref a1), (.long q2)] 4) := ⟨_, rfl⟩
  have pre0 : own_Go p e below S0 (s₁.setTop (mkF m 0 #[.val (.ref a1), .val (.long q2), .second, .unset] [])) := fun t k => by rw [hS0]; exact castTop (ef_7 m a1 q2) k
  have fin : ∀ t, Steps p.tables e below S0 t → Steps p.tables e below (s₁.setTop (entryFrame m #[(.ref a1), (.long q2)] 4)) t := fun t k => by rw [hS0] at k; exact k
  have pre1 : own_Go p e below S0 (s₁.setTop (mkF m 1 #[.val (.ref a1), .val (.long q2), .second, .unset] [(.ref a1)])) := by
    intro t kt
    refine pre0 t ?_
    refine XS.aloadN X0.here hx rfl (hb hby d7_0) rfl rfl ?_
    show Steps p.tables e below (s₁.setTop (mkF m 1 #[.val (.ref a1), .val (.long q2), .second, .unset] [(.ref a1)])) _
    exact kt
  obtain ⟨T2, X2, e2, st2⟩ := getF X0 hx hZ hown (host := "") (Or.inl (hw _ (own_w 40 rfl))) Via.refl e0 pF1 (g := (mkF m 1 #[.val (.ref a1), .val (.long q2), .second, .unset] [(.ref a1)])) rfl rfl (hb hby d7_1)
  have pre3 : own_Go p e below S0 (T2.setTop (mkF m 6 #[.val (.ref a1), .val (.long q2), .second, .val (.ref b)] [(.ref b)])) := by
    intro t kt
    refine pre1 t ?_
    refine st2 _ ?_
    show Steps p.tables e below (T2.setTop (mkF m 4 #[.val (.ref a1), .val (.long q2), .second, .unset] [(.ref b)])) _
    refine XS.astoreN X2.here hx rfl (hb hby d7_4) rfl rfl (l' := #[.val (.ref a1), .val (.long q2), .second, .val (.ref b)]) rfl ?_
    show Steps p.tables e below (T2.setTop (mkF m 5 #[.val (.ref a1), .val (.long q2), .second, .val (.ref b)] [])) _
    refine XS.aloadN X2.here hx rfl (hb hby d7_5) rfl rfl ?_
    show Steps p.tables e below (T2.setTop (mkF m 6 #[.val (.ref a1), .val (.long q2), .second, .val (.ref b)] [(.ref b)])) _
    exact kt
  obtain ⟨cq4, kq4, qa4, qb4, qc4⟩ := isOf hZ e2 pE2
  obtain ⟨_, _, ⟨T4, L4, k4, n4⟩, -, X4, ⟨Lc4, hQ4, l4, y4, z4⟩, st4⟩ := X2.virtualBack hx (y := (⟨"com/example/backplane/backplane/ClusterClock$Sample", "clusterMs", "()J"⟩ : MethodName)) (z := (⟨"com/example/backplane/backplane/ClusterClock$Sample", "clusterMs", "()J"⟩ : MethodName)) hown (mvT hZ (hw _ (own_w 47 rfl))) (mvT hZ (hw _ (own_w 48 rfl))) (notFace_of_selects (args := #[]) (mvT hZ (hw _ (own_w 50 rfl)))) (mvT hZ (hw _ (own_w 50 rfl))) (mvT hZ (hw _ (own_w 49 rfl))) (by decide) (backOf (W := 0) (rm8 l Z a0 hw [] b u1 h0 n0 Z0 pF2) hZ (hw _ (own_w 51 rfl)) (hw _ (own_w 24 rfl)) (by decide) (by decide)) qa4 qc4 (g := (mkF m 6 #[.val (.ref a1), .val (.long q2), .second, .val (.ref b)] [(.ref b)])) rfl (by rw [hml]; rfl) (Steps.refl _) (argsL := []) (rest := []) (lenOf pd_2 rfl) rfl (by show 2 * 0 + _ ≤ _; exact Nat.le_of_eq rfl) (hb hby d7_6) (fun _ _ => ⟨rfl, e2, (by decide : 0 + 0 ≤ _), (by decide : 0 + 0 ≤ _)⟩)
  dsimp only [Pt.U, Pt.locs, Pt.cells, Pt.slots] at X4 l4 y4 z4 st4 hQ4
  subst l4 y4 z4
  obtain ⟨rfl, Nq4, eq4⟩ := hQ4
  have N4 := Fr.app N0 Nq4
  have pre5 : own_Go p e below S0 (T4.setTop (mkF m 11 #[.val (.ref a1), .val (.long q2), .second, .val (.ref b)] [(.ref b), (.long q2), (.long u1)])) := by
    intro t kt
    refine pre3 t ?_
    refine st4.trans ?_
    show Steps p.tables e below (T4.setTop (mkF m 9 #[.val (.ref a1), .val (.long q2), .second, .val (.ref b)] [(.long u1)])) _
    refine XS.lloadN X4.here hx rfl (hb hby d7_9) rfl ?_
    show Steps p.tables e below (T4.setTop (mkF m 10 #[.val (.ref a1), .val (.long q2), .second, .val (.ref b)] [(.long q2), (.long u1)])) _
    refine XS.aloadN X4.here hx rfl (hb hby d7_10) rfl rfl ?_
    show Steps p.tables e below (T4.setTop (mkF m 11 #[.val (.ref a1), .val (.long q2), .second, .val (.ref b)] [(.ref b), (.long q2), (.long u1)])) _
    exact kt
  obtain ⟨cq6, kq6, qa6, qb6, qc6⟩ := isOf hZ eq4 pE2
  obtain ⟨_, _, ⟨T6, L6, k6, n6⟩, -, X6, ⟨Lc6, hQ6, l6, y6, z6⟩, st6⟩ := X4.virtualBack hx (y := (⟨"com/example/backplane/backplane/ClusterClock$Sample", "atNanos", "()J"⟩ : MethodName)) (z := (⟨"com/example/backplane/backplane/ClusterClock$Sample", "atNanos", "()J"⟩ : MethodName)) hown (mvT hZ (hw _ (own_w 52 rfl))) (mvT hZ (hw _ (own_w 53 rfl))) (notFace_of_selects (args := #[]) (mvT hZ (hw _ (own_w 55 rfl)))) (mvT hZ (hw _ (own_w 55 rfl))) (mvT hZ (hw _ (own_w 54 rfl))) (by decide) (backOf (W := 4) (rm9 l Z a0 hw [] b u2 h0 n0 Z0 pF3) hZ (hw _ (own_w 56 rfl)) (hw _ (own_w 24 rfl)) (by decide) (by decide)) qa6 qc6 (g := (mkF m 11 #[.val (.ref a1), .val (.long q2), .second, .val (.ref b)] [(.ref b), (.long q2), (.long u1)])) rfl (by rw [hml]; rfl) (Steps.refl _) (argsL := []) (rest := [(.long q2), (.long u1)]) (lenOf pd_2 rfl) rfl (by show 2 * 0 + _ ≤ _; exact Nat.le_of_eq rfl) (hb hby d7_11) (fun _ _ => ⟨rfl, eq4, (by decide : 0 + 0 ≤ _), (by decide : 0 + 0 ≤ _)⟩)
  dsimp only [Pt.U, Pt.locs, Pt.cells, Pt.slots] at X6 l6 y6 z6 st6 hQ6
  subst l6 y6 z6
  obtain ⟨rfl, Nq6, eq6⟩ := hQ6
  have N6 := Fr.app N4 Nq6
  have pre7 : own_Go p e below S0 (T6.setTop (mkF m 18 #[.val (.ref a1), .val (.long q2), .second, .val (.ref b)] [(.long (1000000 : Int64)), (.long (q2 - u2)), (.long u1)])) := by
    intro t kt
    refine pre5 t ?_
    refine st6.trans ?_
    show Steps p.tables e below (T6.setTop (mkF m 14 #[.val (.ref a1), .val (.long q2), .second, .val (.ref b)] [(.long u2), (.long q2), (.long u1)])) _
    refine XS.lsub X6.here hx rfl (hb hby d7_14) rfl ?_
    show Steps p.tables e below (T6.setTop (mkF m 15 #[.val (.ref a1), .val (.long q2), .second, .val (.ref b)] [(.long (q2 - u2)), (.long u1)])) _
    refine X6.ldc2Long hx hown (mvT hZ (hw _ (own_w 57 rfl))) (g := (mkF m 15 #[.val (.ref a1), .val (.long q2), .second, .val (.ref b)] [(.long (q2 - u2)), (.long u1)])) rfl (hb hby d7_15) _ ?_
    show Steps p.tables e below (T6.setTop (mkF m 18 #[.val (.ref a1), .val (.long q2), .second, .val (.ref b)] [(.long (1000000 : Int64)), (.long (q2 - u2)), (.long u1)])) _
    exact kt
  obtain ⟨_, _, ⟨T8, L8, k8, n8⟩, -, X8, ⟨Lc8, hQ8, l8, y8, z8⟩, st8⟩ := Jvm.LawKit.callS X6 hx (y := (⟨"java/lang/Math", "floorDiv", "(JJ)J"⟩ : MethodName)) hown (mvT hZ (hw _ (own_w 58 rfl))) (mvT hZ (hw _ (own_w 59 rfl))) (mvT hZ (hw _ (own_w 4 rfl))) (mvT hZ (hw _ (own_w 60 rfl))) (by decide) (backOf (W := 2) (rm10 l Z a0 hw [] (q2 - u2) (1000000 : Int64) h0 n0 Z0 (by decide)) hZ (hw _ (own_w 60 rfl)) (hw _ (own_w 4 rfl)) (by decide) (by decide)) (g := (mkF m 18 #[.val (.ref a1), .val (.long q2), .second, .val (.ref b)] [(.long (1000000 : Int64)), (.long (q2 - u2)), (.long u1)])) rfl (by rw [hml]; rfl) (argsL := [(.long (q2 - u2)), (.long (1000000 : Int64))]) (rest := [(.long u1)]) (lenOf pd_4 rfl) rfl (by show 2 * 0 + _ ≤ _; exact Nat.le_of_eq rfl) (hb hby d7_18) (fun _ _ => ⟨rfl, eq6, (by decide : 0 + 0 ≤ _), (by decide : 0 + 0 ≤ _)⟩)
  dsimp only [Pt.U, Pt.locs, Pt.cells, Pt.slots] at X8 l8 y8 z8 st8 hQ8
  subst l8 y8 z8
  obtain ⟨rfl, Nq8, eq8⟩ := hQ8
  have N8 := Fr.app N6 Nq8
  have pre9 : own_Go p e below S0 (T8.setTop (mkF m 22 #[.val (.ref a1), .val (.long q2), .second, .val (.ref b)] [(.long (u1 + (own_fd (q2 - u2) (1000000 : Int64))))])) := by
    intro t kt
    refine pre7 t ?_
    refine st8 _ ?_
    show Steps p.tables e below (T8.setTop (mkF m 21 #[.val (.ref a1), .val (.long q2), .second, .val (.ref b)] [(.long (own_fd (q2 - u2) (1000000 : Int64))), (.long u1)])) _
    refine XS.ladd X8.here hx rfl (hb hby d7_21) rfl ?_
    show Steps p.tables e below (T8.setTop (mkF m 22 #[.val (.ref a1), .val (.long q2), .second, .val (.ref b)] [(.long (u1 + (own_fd (q2 - u2) (1000000 : Int64))))])) _
    exact kt
  obtain ⟨fs, hr, hrun, hended, hW, hsame⟩ := X8.leave (v := some (.long (u1 + (own_fd (q2 - u2) (1000000 : Int64))))) (fun h => by rw [Bd.returns] at h; cases h)
  refine ⟨_, _, fin _ (pre9 _ ?_), hrun, hended, _, _, rfl, ?_, ⟨_, rfl⟩, hW, hsame.mono (by decide) (by decide)⟩
  · jvm_step X8.here [X8.here.top, hx, (hb hby d7_22), X8.method', Bd.returns, narrow]
    first | (intro acts; rw [hr _ acts rfl rfl rfl]) | rw [hr _ _ rfl rfl rfl]
    exact Steps.refl _
  · show Q7 Z a1 q2 b u1 u2 h0 n0 _ T8.heap _
    rw [eq8]
    exact ⟨rfl, N8, rfl⟩

theorem d1_0 : decode jdk_29_method_61_code 0 = .ok (.lload_n 0, 1) := by decide +kernel
theorem d1_1 : decode jdk_29_method_61_code 1 = .ok (.lconst 0, 1) := by decide +kernel
theorem d1_2 : decode jdk_29_method_61_code 2 = .ok (.lcmp, 1) := by decide +kernel
theorem d1_3 : decode jdk_29_method_61_code 3 = .ok (.ifCond .ge 8, 3) := by decide +kernel
theorem d1_6 : decode jdk_29_method_61_code 6 = .ok (.lload_n 0, 1) := by decide +kernel
theorem d1_7 : decode jdk_29_method_61_code 7 = .ok (.lneg, 1) := by decide +kernel
theorem d1_8 : decode jdk_29_method_61_code 8 = .ok (.goto 4, 3) := by decide +kernel
theorem d1_11 : decode jdk_29_method_61_code 11 = .ok (.lload_n 0, 1) := by decide +kernel
theorem d1_12 : decode jdk_29_method_61_code 12 = .ok (.lreturn, 1) := by decide +kernel
theorem ef_1 (m : MethodId) (x0 : Int64) : entryFrame m #[(.long x0)] 2 = mkF m 0 #[.val (.long x0), .second] [] := by first | (simp [entryFrame, mkF, argsToLocals, Value.category]; done) | rfl
def own_abs (q1 : Int64) : Int64 := (if q1 < (0 : Int64) then (-q1) else q1)
def Q1 (Z : State) (q1 : Int64) (h0 : Heap) (n0 : Nat) (v : Option Value) (h : Heap) (L : List Loc) : Prop := v = (some (.long (own_abs q1))) ∧ Fr n0 L ∧ h = h0
set_option maxRecDepth 65536 in
set_option maxHeartbeats 40000000 in
theorem rm1 (l : Launch) (Z : State) (a0 : Array Value) (hw : ∀ d ∈ tables_1, d.before a0 Z = true) (ws : List Jvm.Cond) (q1 : Int64) (h0 : Heap) (n0 : Nat) (Z0 : n0 ≤ h0.size) :
    MetFree l (⟨"java/lang/Math", "abs", "(J)J"⟩ : MethodName) (head1 (Jvm.Cond.code (⟨"java/lang/Math", "abs", "(J)J"⟩ : MethodName) jdk_29_method_61_code 2 (some .long) :: ws) ({ frames := 0, cells := 0, slots := 0, locals := 0 } : Room)) (fun a U => a = #[(.long q1)] ∧ Z.Warmed39 U.vm ∧ U.heap = h0) (fun _ _ _ _ _ => True) (fun _ U o U' => ∃ v L, o = .returned v ∧ Q1 Z q1 h0 n0 v U'.heap L ∧ FrameEnd U o U' L ({ frames := 0, cells := 0, slots := 0, locals := 0 } : Room).cells ({ frames := 0, cells := 0, slots := 0, locals := 0 } : Room).slots) := by
  refine MetFree.of_bodySF (Jvm.Free.JP.mathPlain rfl (by decide +kernel)) hisR ?_
  intro p e s m args below meth c s₁ Bd hml0 hP hK
  obtain ⟨rfl, hZ, hh⟩ := hP
  have hx := Bd.exec
  have hby := Bd.bytes
  have hml : c.maxLocals = 2 := hml0
  have hown0 := findClass_of_methodNamed Bd.named
  have hown : s.vm.findClass "java/lang/Math" = some m.cls := hown0
  have hnm := (name_of_methodNamed Bd.named Bd.method).1
  have X0 : Stand p l e ({ frames := 0, cells := 0, slots := 0, locals := 0 } : Room) s m #[(.long q1)] below meth c s₁ [] 0 0 := Stand.of_body Bd
  have e0 : s₁.heap = h0 := by rw [← hh, Bd.state]; rfl
  have N0 := Fr.nil n0
  obtain ⟨S0, hS0⟩ : ∃ z, z = s₁.setTop (entryFrame m #[(.long q1)] 2) := ⟨_, rfl⟩
  have pre0 : own_Go p e below S0 (s₁.setTop (mkF m 0 #[.val (.long q1), .second] [])) := fun t k => by rw [hS0]; exact castTop (ef_1 m q1) k
  have fin : ∀ t, Steps p.tables e below S0 t → Steps p.tables e below (s₁.setTop (entryFrame m #[(.long q1)] 2)) t := fun t k => by rw [hS0] at k; exact k
  have pre2 : own_Go p e below S0 (s₁.setTop (mkF m 3 #[.val (.long q1), .second] [(.int (lcmpW q1 (0 : Int64)))])) := by
    intro t kt
    refine pre0 t ?_
    refine XS.lloadN X0.here hx rfl (hb hby d1_0) rfl ?_
    show Steps p.tables e below (s₁.setTop (mkF m 1 #[.val (.long q1), .second] [(.long q1)])) _
    refine XS.lconst X0.here hx rfl (hb hby d1_1) ?_
    show Steps p.tables e below (s₁.setTop (mkF m 2 #[.val (.long q1), .second] [(.long (0 : Int64)), (.long q1)])) _
    refine XS.lcmp X0.here hx rfl (hb hby d1_2) rfl ?_
    show Steps p.tables e below (s₁.setTop (mkF m 3 #[.val (.long q1), .second] [(.int (lcmpW q1 (0 : Int64)))])) _
    exact kt
  by_cases hc1 : q1 < (0 : Int64)
  · have pre3 : own_Go p e below S0 (s₁.setTop (mkF m 12 #[.val (.long q1), .second] [(.long (-q1))])) := by
      intro t kt
      refine pre2 t ?_
      refine XS.ifNo X0.here hx rfl (hb hby d1_3) rfl ((if0 _ _).trans (tlt ((lw_lt _ _).mpr hc1)).2.1) ?_
      show Steps p.tables e below (s₁.setTop (mkF m 6 #[.val (.long q1), .second] [])) _
      refine XS.lloadN X0.here hx rfl (hb hby d1_6) rfl ?_
      show Steps p.tables e below (s₁.setTop (mkF m 7 #[.val (.long q1), .second] [(.long q1)])) _
      refine XS.lneg X0.here hx rfl (hb hby d1_7) rfl ?_
      show Steps p.tables e below (s₁.setTop (mkF m 8 #[.val (.long q1), .second] [(.long (-q1))])) _
      refine XS.goto X0.here hx rfl (pc0 := 8) (pc' := 12) rfl (hb hby d1_8) (by decide) (by decide) ?_
      show Steps p.tables e below (s₁.setTop (mkF m 12 #[.val (.long q1), .second] [(.long (-q1))])) _
      exact kt
    obtain ⟨fs, hr, hrun, hended, hW, hsame⟩ := X0.leave (v := some (.long (-q1))) (fun h => by rw [Bd.returns] at h; cases h)
    refine ⟨_, _, fin _ (pre3 _ ?_), hrun, hended, _, _, rfl, ?_, ⟨_, rfl⟩, hW, hsame.mono (by decide) (by decide)⟩
    · jvm_step X0.here [X0.here.top, hx, (hb hby d1_12), X0.method', Bd.returns, narrow]
      first | (intro acts; rw [hr _ acts rfl rfl rfl]) | rw [hr _ _ rfl rfl rfl]
      exact Steps.refl _
    · show Q1 Z q1 h0 n0 _ s₁.heap _
      rw [e0]
      exact ⟨(by show some _ = some _; rw [own_abs, if_pos hc1]), N0, rfl⟩
  · have pre4 : own_Go p e below S0 (s₁.setTop (mkF m 12 #[.val (.long q1), .second] [(.long q1)])) := by
      intro t kt
      refine pre2 t ?_
      refine XS.ifYes X0.here hx rfl (pc0 := 3) (pc' := 11) rfl (hb hby d1_3) rfl ((if0 _ _).trans (flt (fun q => hc1 ((lw_lt _ _).mp q))).2.1) (by decide) (by decide) ?_
      show Steps p.tables e below (s₁.setTop (mkF m 11 #[.val (.long q1), .second] [])) _
      refine XS.lloadN X0.here hx rfl (hb hby d1_11) rfl ?_
      show Steps p.tables e below (s₁.setTop (mkF m 12 #[.val (.long q1), .second] [(.long q1)])) _
      exact kt
    obtain ⟨fs, hr, hrun, hended, hW, hsame⟩ := X0.leave (v := some (.long q1)) (fun h => by rw [Bd.returns] at h; cases h)
    refine ⟨_, _, fin _ (pre4 _ ?_), hrun, hended, _, _, rfl, ?_, ⟨_, rfl⟩, hW, hsame.mono (by decide) (by decide)⟩
    · jvm_step X0.here [X0.here.top, hx, (hb hby d1_12), X0.method', Bd.returns, narrow]
      first | (intro acts; rw [hr _ acts rfl rfl rfl]) | rw [hr _ _ rfl rfl rfl]
      exact Steps.refl _
    · show Q1 Z q1 h0 n0 _ s₁.heap _
      rw [e0]
      exact ⟨(by show some _ = some _; rw [own_abs, if_neg hc1]), N0, rfl⟩

theorem d13_0 : decode method_2_code 0 = .ok (.lload_n 0, 1) := by decide +kernel
theorem d13_1 : decode method_2_code 1 = .ok (.ldc2_w 7, 3) := by decide +kernel
theorem d13_4 : decode method_2_code 4 = .ok (.ldiv, 1) := by decide +kernel
theorem d13_5 : decode method_2_code 5 = .ok (.lstore_n 2, 1) := by decide +kernel
theorem d13_6 : decode method_2_code 6 = .ok (.lload_n 0, 1) := by decide +kernel
theorem d13_7 : decode method_2_code 7 = .ok (.ldc2_w 7, 3) := by decide +kernel
theorem d13_10 : decode method_2_code 10 = .ok (.lrem, 1) := by decide +kernel
theorem d13_11 : decode method_2_code 11 = .ok (.lconst 0, 1) := by decide +kernel
theorem d13_12 : decode method_2_code 12 = .ok (.lcmp, 1) := by decide +kernel
theorem d13_13 : decode method_2_code 13 = .ok (.ifCond .eq 13, 3) := by decide +kernel
theorem d13_16 : decode method_2_code 16 = .ok (.lload_n 0, 1) := by decide +kernel
theorem d13_17 : decode method_2_code 17 = .ok (.lconst 0, 1) := by decide +kernel
theorem d13_18 : decode method_2_code 18 = .ok (.lcmp, 1) := by decide +kernel
theorem d13_19 : decode method_2_code 19 = .ok (.ifCond .ge 7, 3) := by decide +kernel
theorem d13_22 : decode method_2_code 22 = .ok (.lload_n 2, 1) := by decide +kernel
theorem d13_23 : decode method_2_code 23 = .ok (.lconst 1, 1) := by decide +kernel
theorem d13_24 : decode method_2_code 24 = .ok (.lsub, 1) := by decide +kernel
theorem d13_25 : decode method_2_code 25 = .ok (.lstore_n 2, 1) := by decide +kernel
theorem d13_26 : decode method_2_code 26 = .ok (.lload_n 2, 1) := by decide +kernel
theorem d13_27 : decode method_2_code 27 = .ok (.lreturn, 1) := by decide +kernel
theorem pn_13 : plainName "com/example/backplane/backplane/ClusterClockSamplePinLaw" = true := by first | (simp [plainName, overriddenIn]; done) | decide +kernel
theorem ef_13 (m : MethodId) (x0 : Int64) : entryFrame m #[(.long x0)] 4 = mkF m 0 #[.val (.long x0), .second, .unset, .unset] [] := by first | (simp [entryFrame, mkF, argsToLocals, Value.category]; done) | rfl
def own_f1 (q1 : Int64) : Int64 := (if (q1 - (q1 / (1000000 : Int64)) * (1000000 : Int64)) = (0 : Int64) then (q1 / (1000000 : Int64)) else (if q1 < (0 : Int64) then ((q1 / (1000000 : Int64)) - (1 : Int64)) else (q1 / (1000000 : Int64))))
def Q13 (Z : State) (q1 : Int64) (h0 : Heap) (n0 : Nat) (v : Option Value) (h : Heap) (L : List Loc) : Prop := v = (some (.long (own_f1 q1))) ∧ Fr n0 L ∧ h = h0
set_option maxRecDepth 65536 in
set_option maxHeartbeats 40000000 in
theorem rm13 (l : Launch) (Z : State) (a0 : Array Value) (hw : ∀ d ∈ tables_1, d.before a0 Z = true) (ws : List Jvm.Cond) (q1 : Int64) (h0 : Heap) (n0 : Nat) (Z0 : n0 ≤ h0.size) :
    MetFree l (⟨"com/example/backplane/backplane/ClusterClockSamplePinLaw", "fd", "(J)J"⟩ : MethodName) (head1 (Jvm.Cond.code (⟨"com/example/backplane/backplane/ClusterClockSamplePinLaw", "fd", "(J)J"⟩ : MethodName) method_2_code 4 (some .long) :: ws) ({ frames := 0, cells := 0, slots := 0, locals := 0 } : Room)) (fun a U => a = #[(.long q1)] ∧ Z.Warmed39 U.vm ∧ U.heap = h0) (fun _ _ _ _ _ => True) (fun _ U o U' => ∃ v L, o = .returned v ∧ Q13 Z q1 h0 n0 v U'.heap L ∧ FrameEnd U o U' L ({ frames := 0, cells := 0, slots := 0, locals := 0 } : Room).cells ({ frames := 0, cells := 0, slots := 0, locals := 0 } : Room).slots) := by
  refine MetFree.of_bodySF (plainFor_of_name pn_13) hisR ?_
  intro p e s m args below meth c s₁ Bd hml0 hP hK
  obtain ⟨rfl, hZ, hh⟩ := hP
  have hx := Bd.exec
  have hby := Bd.bytes
  have hml : c.maxLocals = 4 := hml0
  have hown0 := findClass_of_methodNamed Bd.named
  have hown : s.vm.findClass "com/example/backplane/backplane/ClusterClockSamplePinLaw" = some m.cls := hown0
  have hnm := (name_of_methodNamed Bd.named Bd.method).1
  have X0 : Stand p l e ({ frames := 0, cells := 0, slots := 0, locals := 0 } : Room) s m #[(.long q1)] below meth c s₁ [] 0 0 := Stand.of_body Bd
  have e0 : s₁.heap = h0 := by rw [← hh, Bd.state]; rfl
  have N0 := Fr.nil n0
  obtain ⟨S0, hS0⟩ : ∃ z, z = s₁.setTop (entryFrame m #[(.long q1)] 4) := ⟨_, rfl⟩
  have pre0 : own_Go p e below S0 (s₁.setTop (mkF m 0 #[.val (.long q1), .second, .unset, .unset] [])) := fun t k => by rw [hS0]; exact castTop (ef_13 m q1) k
  have fin : ∀ t, Steps p.tables e below S0 t → Steps p.tables e below (s₁.setTop (entryFrame m #[(.long q1)] 4)) t := fun t k => by rw [hS0] at k; exact k
  have pre2 : own_Go p e below S0 (s₁.setTop (mkF m 13 #[.val (.long q1), .second, .val (.long (q1 / (1000000 : Int64))), .second] [(.int (lcmpW (q1 - (q1 / (1000000 : Int64)) * (1000000 : Int64)) (0 : Int64)))])) := by
    intro t kt
    refine pre0 t ?_
    refine XS.lloadN X0.here hx rfl (hb hby d13_0) rfl ?_
    show Steps p.tables e below (s₁.setTop (mkF m 1 #[.val (.long q1), .second, .unset, .unset] [(.long q1)])) _
    refine X0.ldc2Long hx hown (mvT hZ (hw _ (own_w 77 rfl))) (g := (mkF m 1 #[.val (.long q1), .second, .unset, .unset] [(.long q1)])) rfl (hb hby d13_1) _ ?_
    show Steps p.tables e below (s₁.setTop (mkF m 4 #[.val (.long q1), .second, .unset, .unset] [(.long (1000000 : Int64)), (.long q1)])) _
    refine XS.ldiv X0.here hx rfl (hb hby d13_4) rfl (by decide) ?_
    show Steps p.tables e below (s₁.setTop (mkF m 5 #[.val (.long q1), .second, .unset, .unset] [(.long (q1 / (1000000 : Int64)))])) _
    refine XS.lstoreN X0.here hx rfl (hb hby d13_5) rfl (l' := #[.val (.long q1), .second, .val (.long (q1 / (1000000 : Int64))), .second]) rfl ?_
    show Steps p.tables e below (s₁.setTop (mkF m 6 #[.val (.long q1), .second, .val (.long (q1 / (1000000 : Int64))), .second] [])) _
    refine XS.lloadN X0.here hx rfl (hb hby d13_6) rfl ?_
    show Steps p.tables e below (s₁.setTop (mkF m 7 #[.val (.long q1), .second, .val (.long (q1 / (1000000 : Int64))), .second] [(.long q1)])) _
    refine X0.ldc2Long hx hown (mvT hZ (hw _ (own_w 77 rfl))) (g := (mkF m 7 #[.val (.long q1), .second, .val (.long (q1 / (1000000 : Int64))), .second] [(.long q1)])) rfl (hb hby d13_7) _ ?_
    show Steps p.tables e below (s₁.setTop (mkF m 10 #[.val (.long q1), .second, .val (.long (q1 / (1000000 : Int64))), .second] [(.long (1000000 : Int64)), (.long q1)])) _
    refine XS.lrem X0.here hx rfl (hb hby d13_10) rfl (by decide) ?_
    show Steps p.tables e below (s₁.setTop (mkF m 11 #[.val (.long q1), .second, .val (.long (q1 / (1000000 : Int64))), .second] [(.long (q1 - (q1 / (1000000 : Int64)) * (1000000 : Int64)))])) _
    refine XS.lconst X0.here hx rfl (hb hby d13_11) ?_
    show Steps p.tables e below (s₁.setTop (mkF m 12 #[.val (.long q1), .second, .val (.long (q1 / (1000000 : Int64))), .second] [(.long (0 : Int64)), (.long (q1 - (q1 / (1000000 : Int64)) * (1000000 : Int64)))])) _
    refine XS.lcmp X0.here hx rfl (hb hby d13_12) rfl ?_
    show Steps p.tables e below (s₁.setTop (mkF m 13 #[.val (.long q1), .second, .val (.long (q1 / (1000000 : Int64))), .second] [(.int (lcmpW (q1 - (q1 / (1000000 : Int64)) * (1000000 : Int64)) (0 : Int64)))])) _
    exact kt
  by_cases hc1 : (q1 - (q1 / (1000000 : Int64)) * (1000000 : Int64)) = (0 : Int64)
  · have pre3 : own_Go p e below S0 (s₁.setTop (mkF m 27 #[.val (.long q1), .second, .val (.long (q1 / (1000000 : Int64))), .second] [(.long (q1 / (1000000 : Int64)))])) := by
      intro t kt
      refine pre2 t ?_
      refine XS.ifYes X0.here hx rfl (pc0 := 13) (pc' := 26) rfl (hb hby d13_13) rfl ((if0 _ _).trans (teq ((lw_eq _ _).mpr hc1)).1) (by decide) (by decide) ?_
      show Steps p.tables e below (s₁.setTop (mkF m 26 #[.val (.long q1), .second, .val (.long (q1 / (1000000 : Int64))), .second] [])) _
      refine XS.lloadN X0.here hx rfl (hb hby d13_26) rfl ?_
      show Steps p.tables e below (s₁.setTop (mkF m 27 #[.val (.long q1), .second, .val (.long (q1 / (1000000 : Int64))), .second] [(.long (q1 / (1000000 : Int64)))])) _
      exact kt
    obtain ⟨fs, hr, hrun, hended, hW, hsame⟩ := X0.leave (v := some (.long (q1 / (1000000 : Int64)))) (fun h => by rw [Bd.returns] at h; cases h)
    refine ⟨_, _, fin _ (pre3 _ ?_), hrun, hended, _, _, rfl, ?_, ⟨_, rfl⟩, hW, hsame.mono (by decide) (by decide)⟩
    · jvm_step X0.here [X0.here.top, hx, (hb hby d13_27), X0.method', Bd.returns, narrow]
      first | (intro acts; rw [hr _ acts rfl rfl rfl]) | rw [hr _ _ rfl rfl rfl]
      exact Steps.refl _
    · show Q13 Z q1 h0 n0 _ s₁.heap _
      rw [e0]
      exact ⟨(by show some _ = some _; rw [own_f1, if_pos hc1]), N0, rfl⟩
  · have pre5 : own_Go p e below S0 (s₁.setTop (mkF m 19 #[.val (.long q1), .second, .val (.long (q1 / (1000000 : Int64))), .second] [(.int (lcmpW q1 (0 : Int64)))])) := by
      intro t kt
      refine pre2 t ?_
      refine XS.ifNo X0.here hx rfl (hb hby d13_13) rfl ((if0 _ _).trans (feq (fun q => hc1 ((lw_eq _ _).mp q))).1) ?_
      show Steps p.tables e below (s₁.setTop (mkF m 16 #[.val (.long q1), .second, .val (.long (q1 / (1000000 : Int64))), .second] [])) _
      refine XS.lloadN X0.here hx rfl (hb hby d13_16) rfl ?_
      show Steps p.tables e below (s₁.setTop (mkF m 17 #[.val (.long q1), .second, .val (.long (q1 / (1000000 : Int64))), .second] [(.long q1)])) _
      refine XS.lconst X0.here hx rfl (hb hby d13_17) ?_
      show Steps p.tables e below (s₁.setTop (mkF m 18 #[.val (.long q1), .second, .val (.long (q1 / (1000000 : Int64))), .second] [(.long (0 : Int64)), (.long q1)])) _
      refine XS.lcmp X0.here hx rfl (hb hby d13_18) rfl ?_
      show Steps p.tables e below (s₁.setTop (mkF m 19 #[.val (.long q1), .second, .val (.long (q1 / (1000000 : Int64))), .second] [(.int (lcmpW q1 (0 : Int64)))])) _
      exact kt
    by_cases hc4 : q1 < (0 : Int64)
    · have pre6 : own_Go p e below S0 (s₁.setTop (mkF m 27 #[.val (.long q1), .second, .val (.long ((q1 / (1000000 : Int64)) - (1 : Int64))), .second] [(.long ((q1 / (1000000 : Int64)) - (1 : Int64)))])) := by
        intro t kt
        refine pre5 t ?_
        refine XS.ifNo X0.here hx rfl (hb hby d13_19) rfl ((if0 _ _).trans (tlt ((lw_lt _ _).mpr hc4)).2.1) ?_
        show Steps p.tables e below (s₁.setTop (mkF m 22 #[.val (.long q1), .second, .val (.long (q1 / (1000000 : Int64))), .second] [])) _
        refine XS.lloadN X0.here hx rfl (hb hby d13_22) rfl ?_
        show Steps p.tables e below (s₁.setTop (mkF m 23 #[.val (.long q1), .second, .val (.long (q1 / (1000000 : Int64))), .second] [(.long (q1 / (1000000 : Int64)))])) _
        refine XS.lconst X0.here hx rfl (hb hby d13_23) ?_
        show Steps p.tables e below (s₁.setTop (mkF m 24 #[.val (.long q1), .second, .val (.long (q1 / (1000000 : Int64))), .second] [(.long (1 : Int64)), (.long (q1 / (1000000 : Int64)))])) _
        refine XS.lsub X0.here hx rfl (hb hby d13_24) rfl ?_
        show Steps p.tables e below (s₁.setTop (mkF m 25 #[.val (.long q1), .second, .val (.long (q1 / (1000000 : Int64))), .second] [(.long ((q1 / (1000000 : Int64)) - (1 : Int64)))])) _
        refine XS.lstoreN X0.here hx rfl (hb hby d13_25) rfl (l' := #[.val (.long q1), .second, .val (.long ((q1 / (1000000 : Int64)) - (1 : Int64))), .second]) rfl ?_
        show Steps p.tables e below (s₁.setTop (mkF m 26 #[.val (.long q1), .second, .val (.long ((q1 / (1000000 : Int64)) - (1 : Int64))), .second] [])) _
        refine XS.lloadN X0.here hx rfl (hb hby d13_26) rfl ?_
        show Steps p.tables e below (s₁.setTop (mkF m 27 #[.val (.long q1), .second, .val (.long ((q1 / (1000000 : Int64)) - (1 : Int64))), .second] [(.long ((q1 / (1000000 : Int64)) - (1 : Int64)))])) _
        exact kt
      obtain ⟨fs, hr, hrun, hended, hW, hsame⟩ := X0.leave (v := some (.long ((q1 / (1000000 : Int64)) - (1 : Int64)))) (fun h => by rw [Bd.returns] at h; cases h)
      refine ⟨_, _, fin _ (pre6 _ ?_), hrun, hended, _, _, rfl, ?_, ⟨_, rfl⟩, hW, hsame.mono (by decide) (by decide)⟩
      · jvm_step X0.here [X0.here.top, hx, (hb hby d13_27), X0.method', Bd.returns, narrow]
        first | (intro acts; rw [hr _ acts rfl rfl rfl]) | rw [hr _ _ rfl rfl rfl]
        exact Steps.refl _
      · show Q13 Z q1 h0 n0 _ s₁.heap _
        rw [e0]
        exact ⟨(by show some _ = some _; rw [own_f1, if_neg hc1, if_pos hc4]), N0, rfl⟩
    · have pre7 : own_Go p e below S0 (s₁.setTop (mkF m 27 #[.val (.long q1), .second, .val (.long (q1 / (1000000 : Int64))), .second] [(.long (q1 / (1000000 : Int64)))])) := by
        intro t kt
        refine pre5 t ?_
        refine XS.ifYes X0.here hx rfl (pc0 := 19) (pc' := 26) rfl (hb hby d13_19) rfl ((if0 _ _).trans (flt (fun q => hc4 ((lw_lt _ _).mp q))).2.1) (by decide) (by decide) ?_
        show Steps p.tables e below (s₁.setTop (mkF m 26 #[.val (.long q1), .second, .val (.long (q1 / (1000000 : Int64))), .second] [])) _
        refine XS.lloadN X0.here hx rfl (hb hby d13_26) rfl ?_
        show Steps p.tables e below (s₁.setTop (mkF m 27 #[.val (.long q1), .second, .val (.long (q1 / (1000000 : Int64))), .second] [(.long (q1 / (1000000 : Int64)))])) _
        exact kt
      obtain ⟨fs, hr, hrun, hended, hW, hsame⟩ := X0.leave (v := some (.long (q1 / (1000000 : Int64)))) (fun h => by rw [Bd.returns] at h; cases h)
      refine ⟨_, _, fin _ (pre7 _ ?_), hrun, hended, _, _, rfl, ?_, ⟨_, rfl⟩, hW, hsame.mono (by decide) (by decide)⟩
      · jvm_step X0.here [X0.here.top, hx, (hb hby d13_27), X0.method', Bd.returns, narrow]
        first | (intro acts; rw [hr _ acts rfl rfl rfl]) | rw [hr _ _ rfl rfl rfl]
        exact Steps.refl _
      · show Q13 Z q1 h0 n0 _ s₁.heap _
        rw [e0]
        exact ⟨(by show some _ = some _; rw [own_f1, if_neg hc1, if_neg hc4]), N0, rfl⟩

def own_lo (hh dl : Int64) : Int64 := if dl = (0 : Int64) then hh else ((hh + (dl / (1000 : Int64))) - (1 : Int64))
def own_hi (hh dl : Int64) : Int64 := if dl = (0 : Int64) then hh else ((hh + (dl / (1000 : Int64))) + (1 : Int64))
def own_rr (c1 c2 o dl hh h2 : Int64) : Int64 := if (hh + (own_X dl)) < h2 then (c1 + (own_fd o (1000000 : Int64))) else (c2 + (own_fd (o - dl) (1000000 : Int64)))
theorem own_fE (n : Int64) : own_f1 n = own_fd n 1000000 := by
  have e0 : (0 : Int64).toInt = 0 := rfl
  have e1 : (1000000 : Int64).toInt = 1000000 := rfl
  have hx := c_xorSL n 1000000
  have hd := c_ldiv n 1000000 1000000 rfl (by decide)
  have hr := c_lrem n 1000000 1000000 rfl
  have hm := c_lmul (n / 1000000) 1000000
  have r1 := rng64 ((n / 1000000) * 1000000)
  have r2 := rng64 n
  have he : ∀ a b : Int64, a = b ↔ a.toInt = b.toInt := fun a b => Int64.toInt_inj.symm
  rw [e1] at hx hm
  unfold own_f1 own_fd
  by_cases hn : n.toInt < 0
  · have p1 : (n ^^^ 1000000) < (0 : Int64) := by rw [Int64.lt_iff_toInt_lt, e0]; exact hx.2.1 hn (by omega)
    have p2 : n < (0 : Int64) := by rw [Int64.lt_iff_toInt_lt, e0]; exact hn
    have hq := hd.2 hn
    have hz := hr.2 hn
    rw [if_pos p1]
    by_cases hk : (n / 1000000) * 1000000 = n
    · have z : (n - (n / 1000000) * 1000000) = (0 : Int64) := by rw [hk]; exact Int64.toInt_inj.mp (by have := c_lsub n n; have := rng64 (n - n); rw [e0]; omega)
      rw [if_pos hk, if_pos z]
    · have z : ¬ (n - (n / 1000000) * 1000000) = (0 : Int64) := fun q => hk ((he _ _).mpr (by have q2 := congrArg Int64.toInt q; rw [hz, e0] at q2; omega))
      rw [if_neg hk, if_neg z, if_pos p2]
  · have p1 : ¬ (n ^^^ 1000000) < (0 : Int64) := by rw [Int64.lt_iff_toInt_lt, e0]; have := hx.2.2.2 (by omega) (by omega); omega
    have p2 : ¬ n < (0 : Int64) := by rw [Int64.lt_iff_toInt_lt, e0]; exact hn
    rw [if_neg p1]
    split <;> first | rfl | rw [if_neg p2]
theorem own_d1 (b d h o : Int64) (hb : -2305843009213693952 ≤ b.toInt ∧ b.toInt < 2305843009213693952) (hd : 0 ≤ d.toInt ∧ d.toInt < 2305843009213693952) (hh : h.toInt = d.toInt / 2) : ((b + d) - b) / (2 : Int64) = h := by
  have a1 := c_ladd b d
  have a2 := c_lsub (b + d) b
  have r1 := rng64 (b + d)
  have r2 := rng64 ((b + d) - b)
  have dv := (c_ldiv ((b + d) - b) 2 2 rfl (by decide)).1 (by omega)
  exact Int64.toInt_inj.mp (by omega)
theorem own_mo (m o : Int64) : (m + o) - m = o := by
  have a1 := c_ladd m o
  have a2 := c_lsub (m + o) m
  have r1 := rng64 (m + o)
  have r2 := rng64 ((m + o) - m)
  have r3 := rng64 o
  exact Int64.toInt_inj.mp (by omega)
theorem own_mo2 (m o l : Int64) : (m + o) - (m + l) = o - l := by
  have a1 := c_ladd m o
  have a2 := c_ladd m l
  have a3 := c_lsub (m + o) (m + l)
  have a4 := c_lsub o l
  have r2 := rng64 ((m + o) - (m + l))
  have r3 := rng64 (o - l)
  exact Int64.toInt_inj.mp (by omega)
theorem own_d2 (m h e : Int64) (hh : 0 ≤ h.toInt ∧ h.toInt < 2305843009213693952) (he : 0 ≤ e.toInt ∧ e.toInt < 2) : (((m + h) + e) - (m - h)) / (2 : Int64) = h := by
  have a1 := c_ladd m h
  have a2 := c_ladd (m + h) e
  have a3 := c_lsub m h
  have a4 := c_lsub ((m + h) + e) (m - h)
  have r2 := rng64 (((m + h) + e) - (m - h))
  have e1 : (((m + h) + e) - (m - h)).toInt = 2 * h.toInt + e.toInt := by omega
  have dv := (c_ldiv (((m + h) + e) - (m - h)) 2 2 rfl (by decide)).1 (by omega)
  exact Int64.toInt_inj.mp (by omega)
theorem own_d3 (m h : Int64) : (m - h) + h = m := by
  have a3 := c_lsub m h
  have a4 := c_ladd (m - h) h
  have r2 := rng64 ((m - h) + h)
  have r3 := rng64 m
  exact Int64.toInt_inj.mp (by omega)
theorem own_X0 : own_X 0 = 0 := own_fx0
theorem own_Xb {n : Int64} (h : n.toInt.natAbs ≤ 2 ^ 30) (h0 : ¬ n = 0) : (n / 1000).toInt - 1 ≤ (own_X n).toInt ∧ (own_X n).toInt ≤ (n / 1000).toInt + 1 ∧ -2000000 ≤ (n / 1000).toInt ∧ (n / 1000).toInt ≤ 2000000 := by
  obtain ⟨W, hW, e⟩ := own_fx h h0
  have e' : (own_X n).toInt = if n.toInt < 0 then -(W : Int) else (W : Int) := e
  have dv := c_ldiv n 1000 1000 rfl (by decide)
  rw [e']
  by_cases hn : n.toInt < 0
  · have q := dv.2 hn
    have a : (n.toInt.natAbs : Int) = -n.toInt := Int.ofNat_natAbs_of_nonpos (by omega)
    generalize n.toInt.natAbs = z at *
    rw [if_pos hn, q]; omega
  · have q := dv.1 (by omega)
    have a : (n.toInt.natAbs : Int) = n.toInt := Int.natAbs_of_nonneg (by omega)
    generalize n.toInt.natAbs = z at *
    rw [if_neg hn, q]; omega
theorem own_lim {hh dl h2 : Int64} (h1 : 0 ≤ hh.toInt ∧ hh.toInt < 1152921504606846976) (hl : dl.toInt.natAbs ≤ 2 ^ 30) : (¬ own_lo hh dl < h2 → ¬ (hh + (own_X dl)) < h2) ∧ (own_hi hh dl < h2 → (hh + (own_X dl)) < h2) := by
  have e1 : (1 : Int64).toInt = 1 := rfl
  unfold own_lo own_hi
  by_cases h0 : dl = 0
  · rw [if_pos h0, if_pos h0, h0, own_X0]
    have : hh + 0 = hh := Int64.toInt_inj.mp (by have := c_ladd hh 0; have := rng64 (hh + 0); have z : (0 : Int64).toInt = 0 := rfl; omega)
    rw [this]; exact ⟨id, id⟩
  · rw [if_neg h0, if_neg h0]
    obtain ⟨x1, x2, x3, x4⟩ := own_Xb hl h0
    have a1 := c_ladd hh (own_X dl)
    have a2 := c_ladd hh (dl / 1000)
    have a3 := c_lsub (hh + dl / 1000) 1
    have a4 := c_ladd (hh + dl / 1000) 1
    rw [e1] at a3 a4
    have r1 := rng64 (hh + own_X dl)
    have r2 := rng64 (hh + dl / 1000)
    have r3 := rng64 (hh + dl / 1000 - 1)
    have r4 := rng64 (hh + dl / 1000 + 1)
    simp only [Int64.lt_iff_toInt_lt]
    constructor
    · intro q; omega
    · intro q; omega
theorem own_sh (x : Int64) : (x >>> ((34 : Int32) &&& 0x3f).toInt64).toInt.natAbs ≤ 2 ^ 30 := by
  have h := c_lshr x 34 34 (by decide)
  have r := rng64 x
  generalize (x >>> ((34 : Int32) &&& 0x3f).toInt64).toInt = z at *
  omega
theorem own_b (x : Int64) : -2305843009213693952 ≤ (x >>> ((2 : Int32) &&& 0x3f).toInt64).toInt ∧ (x >>> ((2 : Int32) &&& 0x3f).toInt64).toInt < 2305843009213693952 := by
  have h := c_lshr x 2 2 (by decide)
  have r := rng64 x
  omega
theorem own_dm (x : Int64) : 0 ≤ (x &&& (2305843009213693951 : Int64)).toInt ∧ (x &&& (2305843009213693951 : Int64)).toInt < 2305843009213693952 := by
  have h := c_maskL x 2305843009213693951 61 (by decide) (by decide)
  omega
theorem own_em (x : Int64) : 0 ≤ (x &&& (1 : Int64)).toInt ∧ (x &&& (1 : Int64)).toInt < 2 := by
  have h := c_maskL x 1 1 (by decide) (by decide)
  omega
theorem own_hf {d : Int64} (h : 0 ≤ d.toInt ∧ d.toInt < 2305843009213693952) : (d / (2 : Int64)).toInt = d.toInt / 2 := (c_ldiv d 2 2 rfl (by decide)).1 h.1
theorem own_ab (h s : Int64) (hh : 0 ≤ h.toInt ∧ h.toInt < 1152921504606846976) : 0 ≤ (own_abs (h + (s >>> ((40 : Int32) &&& 0x3f).toInt64))).toInt ∧ (own_abs (h + (s >>> ((40 : Int32) &&& 0x3f).toInt64))).toInt < 2305843009213693952 := by
  have k := c_lshr s 40 40 (by decide)
  have r := rng64 s
  have a := c_ladd h (s >>> ((40 : Int32) &&& 0x3f).toInt64)
  have r2 := rng64 (h + (s >>> ((40 : Int32) &&& 0x3f).toInt64))
  generalize s >>> ((40 : Int32) &&& 0x3f).toInt64 = z at *
  have n := c_lneg (h + z)
  have r3 := rng64 (-(h + z))
  unfold own_abs
  split
  · rename_i q; rw [Int64.lt_iff_toInt_lt, show (0 : Int64).toInt = 0 from rfl] at q; omega
  · rename_i q; rw [Int64.lt_iff_toInt_lt, show (0 : Int64).toInt = 0 from rfl] at q; omega

theorem pn_0 : plainName "com/example/backplane/backplane/ClusterClockSamplePinLaw" = true := by first | (simp [plainName, overriddenIn]; done) | decide +kernel
theorem ef_0 (m : MethodId) (x0 : Int64) (x1 : Int64) (x2 : Int64) (x3 : Int64) (x4 : Int64) (x5 : Int32) : entryFrame m #[(.long x0), (.long x1), (.long x2), (.long x3), (.long x4), (.int x5)] maxLocals = mkF m 0 #[.val (.long x0), .second, .val (.long x1), .second, .val (.long x2), .second, .val (.long x3), .second, .val (.long x4), .second, .val (.int x5), .unset, .unset, .unset, .unset, .unset, .unset, .unset, .unset, .unset, .unset, .unset, .unset, .unset, .unset, .unset, .unset, .unset, .unset, .unset, .unset, .unset, .unset, .unset, .unset, .unset, .unset, .unset, .unset, .unset, .unset, .unset, .unset, .unset, .unset, .unset, .unset, .unset] [] := by first | (simp [entryFrame, mkF, argsToLocals, Value.category, maxLocals]; done) | rfl
def Q0 (Z : State) (q1 : Int64) (q2 : Int64) (q3 : Int64) (q4 : Int64) (q5 : Int64) (p6 : Int32) (h0 : Heap) (n0 : Nat) (v : Option Value) (h : Heap) (L : List Loc) : Prop := v = (some (.int 1)) ∧ Fr n0 L
set_option maxRecDepth 65536 in
set_option maxHeartbeats 40000000 in
theorem rm0 (l : Launch) (Z : State) (a0 : Array Value) (hw : ∀ d ∈ tables_1, d.before a0 Z = true) (ws : List Jvm.Cond) (q1 : Int64) (q2 : Int64) (q3 : Int64) (q4 : Int64) (q5 : Int64) (p6 : Int32) (h0 : Heap) (n0 : Nat) (Z0 : n0 ≤ h0.size) :
    MetFree l x (head1 (Jvm.Cond.code x code maxLocals ret :: ws) room_1) (fun a U => a = #[(.long q1), (.long q2), (.long q3), (.long q4), (.long q5), (.int p6)] ∧ Z.Warmed39 U.vm ∧ U.heap = h0) (fun _ _ _ _ _ => True) (fun _ U o U' => ∃ v L, o = .returned v ∧ Q0 Z q1 q2 q3 q4 q5 p6 h0 n0 v U'.heap L ∧ FrameEnd U o U' L 3 7) := by
  refine MetFree.of_bodySF (plainFor_of_name pn_0) hisR ?_
  intro p e s m args below meth c s₁ Bd hml0 hP hK
  obtain ⟨rfl, hZ, hh⟩ := hP
  have hx := Bd.exec
  have hby := Bd.bytes
  have hml : c.maxLocals = 48 := hml0
  have hown0 := findClass_of_methodNamed Bd.named
  have hown : s.vm.findClass "com/example/backplane/backplane/ClusterClockSamplePinLaw" = some m.cls := hown0
  have hnm := (name_of_methodNamed Bd.named Bd.method).1
  have X0 : Stand p l e room_1 s m #[(.long q1), (.long q2), (.long q3), (.long q4), (.long q5), (.int p6)] below meth c s₁ [] 0 0 := Stand.of_body Bd
  have e0 : s₁.heap = h0 := by rw [← hh, Bd.state]; rfl
  have N0 := Fr.nil n0
  obtain ⟨S0, hS0⟩ : ∃ z, z = s₁.setTop (entryFrame m #[(.long q1), (.long q2), (.long q3), (.long q4), (.long q5), (.int p6)] maxLocals) := ⟨_, rfl⟩
  have pre0 : own_Go p e below S0 (s₁.setTop (mkF m 0 #[.val (.long q1), .second, .val (.long q2), .second, .val (.long q3), .second, .val (.long q4), .second, .val (.long q5), .second, .val (.int p6), .unset, .unset, .unset, .unset, .unset, .unset, .unset, .unset, .unset, .unset, .unset, .unset, .unset, .unset, .unset, .unset, .unset, .unset, .unset, .unset, .unset, .unset, .unset, .unset, .unset, .unset, .unset, .unset, .unset, .unset, .unset, .unset, .unset, .unset, .unset, .unset, .unset] [])) := fun t k => by rw [hS0]; exact castTop (ef_0 m q1 q2 q3 q4 q5 p6) k
  have fin : ∀ t, Steps p.tables e below S0 t → Steps p.tables e below (s₁.setTop (entryFrame m #[(.long q1), (.long q2), (.long q3), (.long q4), (.long q5), (.int p6)] maxLocals)) t := fun t k => by rw [hS0] at k; exact k
  have pre1 : own_Go p e below S0 (s₁.setTop (mkF m 27 #[.val (.long q1), .second, .val (.long q2), .second, .val (.long q3), .second, .val (.long q4), .second, .val (.long q5), .second, .val (.int p6), .val (.long (q1 >>> ((2 : Int32) &&& 0x3f).toInt64)), .second, .val (.long (q2 &&& (2305843009213693951 : Int64))), .second, .val (.long ((q2 &&& (2305843009213693951 : Int64)) / (2 : Int64))), .second, .val (.long ((q1 >>> ((2 : Int32) &&& 0x3f).toInt64) + ((q2 &&& (2305843009213693951 : Int64)) / (2 : Int64)))), .second, .unset, .unset, .unset, .unset, .unset, .unset, .unset, .unset, .unset, .unset, .unset, .unset, .unset, .unset, .unset, .unset, .unset, .unset, .unset, .unset, .unset, .unset, .unset, .unset, .unset, .unset, .unset, .unset, .unset] [])) := by
    intro t kt
    refine pre0 t ?_
    refine XS.lloadN X0.here hx rfl (hb hby at_0) rfl ?_
    show Steps p.tables e below (s₁.setTop (mkF m 1 #[.val (.long q1), .second, .val (.long q2), .second, .val (.long q3), .second, .val (.long q4), .second, .val (.long q5), .second, .val (.int p6), .unset, .unset, .unset, .unset, .unset, .unset, .unset, .unset, .unset, .unset, .unset, .unset, .unset, .unset, .unset, .unset, .unset, .unset, .unset, .unset, .unset, .unset, .unset, .unset, .unset, .unset, .unset, .unset, .unset, .unset, .unset, .unset, .unset, .unset, .unset, .unset, .unset] [(.long q1)])) _
    refine XS.iconst X0.here hx rfl (hb hby at_1) ?_
    show Steps p.tables e below (s₁.setTop (mkF m 2 #[.val (.long q1), .second, .val (.long q2), .second, .val (.long q3), .second, .val (.long q4), .second, .val (.long q5), .second, .val (.int p6), .unset, .unset, .unset, .unset, .unset, .unset, .unset, .unset, .unset, .unset, .unset, .unset, .unset, .unset, .unset, .unset, .unset, .unset, .unset, .unset, .unset, .unset, .unset, .unset, .unset, .unset, .unset, .unset, .unset, .unset, .unset, .unset, .unset, .unset, .unset, .unset, .unset] [(.int (2 : Int32)), (.long q1)])) _
    refine XS.lshr X0.here hx rfl (hb hby at_2) rfl ?_
    show Steps p.tables e below (s₁.setTop (mkF m 3 #[.val (.long q1), .second, .val (.long q2), .second, .val (.long q3), .second, .val (.long q4), .second, .val (.long q5), .second, .val (.int p6), .unset, .unset, .unset, .unset, .unset, .unset, .unset, .unset, .unset, .unset, .unset, .unset, .unset, .unset, .unset, .unset, .unset, .unset, .unset, .unset, .unset, .unset, .unset, .unset, .unset, .unset, .unset, .unset, .unset, .unset, .unset, .unset, .unset, .unset, .unset, .unset, .unset] [(.long (q1 >>> ((2 : Int32) &&& 0x3f).toInt64))])) _
    refine XS.lstore X0.here hx rfl (hb hby at_3) rfl (l' := #[.val (.long q1), .second, .val (.long q2), .second, .val (.long q3), .second, .val (.long q4), .second, .val (.long q5), .second, .val (.int p6), .val (.long (q1 >>> ((2 : Int32) &&& 0x3f).toInt64)), .second, .unset, .unset, .unset, .unset, .unset, .unset, .unset, .unset, .unset, .unset, .unset, .unset, .unset, .unset, .unset, .unset, .unset, .unset, .unset, .unset, .unset, .unset, .unset, .unset, .unset, .unset, .unset, .unset, .unset, .unset, .unset, .unset, .unset, .unset, .unset]) rfl ?_
    show Steps p.tables e below (s₁.setTop (mkF m 5 #[.val (.long q1), .second, .val (.long q2), .second, .val (.long q3), .second, .val (.long q4), .second, .val (.long q5), .second, .val (.int p6), .val (.long (q1 >>> ((2 : Int32) &&& 0x3f).toInt64)), .second, .unset, .unset, .unset, .unset, .unset, .unset, .unset, .unset, .unset, .unset, .unset, .unset, .unset, .unset, .unset, .unset, .unset, .unset, .unset, .unset, .unset, .unset, .unset, .unset, .unset, .unset, .unset, .unset, .unset, .unset, .unset, .unset, .unset, .unset, .unset] [])) _
    refine XS.lloadN X0.here hx rfl (hb hby at_5) rfl ?_
    show Steps p.tables e below (s₁.setTop (mkF m 6 #[.val (.long q1), .second, .val (.long q2), .second, .val (.long q3), .second, .val (.long q4), .second, .val (.long q5), .second, .val (.int p6), .val (.long (q1 >>> ((2 : Int32) &&& 0x3f).toInt64)), .second, .unset, .unset, .unset, .unset, .unset, .unset, .unset, .unset, .unset, .unset, .unset, .unset, .unset, .unset, .unset, .unset, .unset, .unset, .unset, .unset, .unset, .unset, .unset, .unset, .unset, .unset, .unset, .unset, .unset, .unset, .unset, .unset, .unset, .unset, .unset] [(.long q2)])) _
    refine X0.ldc2Long hx hown (mvT hZ (hw _ (own_w 0 rfl))) (g := (mkF m 6 #[.val (.long q1), .second, .val (.long q2), .second, .val (.long q3), .second, .val (.long q4), .second, .val (.long q5), .second, .val (.int p6), .val (.long (q1 >>> ((2 : Int32) &&& 0x3f).toInt64)), .second, .unset, .unset, .unset, .unset, .unset, .unset, .unset, .unset, .unset, .unset, .unset, .unset, .unset, .unset, .unset, .unset, .unset, .unset, .unset, .unset, .unset, .unset, .unset, .unset, .unset, .unset, .unset, .unset, .unset, .unset, .unset, .unset, .unset, .unset, .unset] [(.long q2)])) rfl (hb hby at_6) _ ?_
    show Steps p.tables e below (s₁.setTop (mkF m 9 #[.val (.long q1), .second, .val (.long q2), .second, .val (.long q3), .second, .val (.long q4), .second, .val (.long q5), .second, .val (.int p6), .val (.long (q1 >>> ((2 : Int32) &&& 0x3f).toInt64)), .second, .unset, .unset, .unset, .unset, .unset, .unset, .unset, .unset, .unset, .unset, .unset, .unset, .unset, .unset, .unset, .unset, .unset, .unset, .unset, .unset, .unset, .unset, .unset, .unset, .unset, .unset, .unset, .unset, .unset, .unset, .unset, .unset, .unset, .unset, .unset] [(.long (2305843009213693951 : Int64)), (.long q2)])) _
    refine XS.land X0.here hx rfl (hb hby at_9) rfl ?_
    show Steps p.tables e below (s₁.setTop (mkF m 10 #[.val (.long q1), .second, .val (.long q2), .second, .val (.long q3), .second, .val (.long q4), .second, .val (.long q5), .second, .val (.int p6), .val (.long (q1 >>> ((2 : Int32) &&& 0x3f).toInt64)), .second, .unset, .unset, .unset, .unset, .unset, .unset, .unset, .unset, .unset, .unset, .unset, .unset, .unset, .unset, .unset, .unset, .unset, .unset, .unset, .unset, .unset, .unset, .unset, .unset, .unset, .unset, .unset, .unset, .unset, .unset, .unset, .unset, .unset, .unset, .unset] [(.long (q2 &&& (2305843009213693951 : Int64)))])) _
    refine XS.lstore X0.here hx rfl (hb hby at_10) rfl (l' := #[.val (.long q1), .second, .val (.long q2), .second, .val (.long q3), .second, .val (.long q4), .second, .val (.long q5), .second, .val (.int p6), .val (.long (q1 >>> ((2 : Int32) &&& 0x3f).toInt64)), .second, .val (.long (q2 &&& (2305843009213693951 : Int64))), .second, .unset, .unset, .unset, .unset, .unset, .unset, .unset, .unset, .unset, .unset, .unset, .unset, .unset, .unset, .unset, .unset, .unset, .unset, .unset, .unset, .unset, .unset, .unset, .unset, .unset, .unset, .unset, .unset, .unset, .unset, .unset, .unset, .unset]) rfl ?_
    show Steps p.tables e below (s₁.setTop (mkF m 12 #[.val (.long q1), .second, .val (.long q2), .second, .val (.long q3), .second, .val (.long q4), .second, .val (.long q5), .second, .val (.int p6), .val (.long (q1 >>> ((2 : Int32) &&& 0x3f).toInt64)), .second, .val (.long (q2 &&& (2305843009213693951 : Int64))), .second, .unset, .unset, .unset, .unset, .unset, .unset, .unset, .unset, .unset, .unset, .unset, .unset, .unset, .unset, .unset, .unset, .unset, .unset, .unset, .unset, .unset, .unset, .unset, .unset, .unset, .unset, .unset, .unset, .unset, .unset, .unset, .unset, .unset] [])) _
    refine XS.lload X0.here hx rfl (hb hby at_12) rfl ?_
    show Steps p.tables e below (s₁.setTop (mkF m 14 #[.val (.long q1), .second, .val (.long q2), .second, .val (.long q3), .second, .val (.long q4), .second, .val (.long q5), .second, .val (.int p6), .val (.long (q1 >>> ((2 : Int32) &&& 0x3f).toInt64)), .second, .val (.long (q2 &&& (2305843009213693951 : Int64))), .second, .unset, .unset, .unset, .unset, .unset, .unset, .unset, .unset, .unset, .unset, .unset, .unset, .unset, .unset, .unset, .unset, .unset, .unset, .unset, .unset, .unset, .unset, .unset, .unset, .unset, .unset, .unset, .unset, .unset, .unset, .unset, .unset, .unset] [(.long (q2 &&& (2305843009213693951 : Int64)))])) _
    refine X0.ldc2Long hx hown (mvT hZ (hw _ (own_w 1 rfl))) (g := (mkF m 14 #[.val (.long q1), .second, .val (.long q2), .second, .val (.long q3), .second, .val (.long q4), .second, .val (.long q5), .second, .val (.int p6), .val (.long (q1 >>> ((2 : Int32) &&& 0x3f).toInt64)), .second, .val (.long (q2 &&& (2305843009213693951 : Int64))), .second, .unset, .unset, .unset, .unset, .unset, .unset, .unset, .unset, .unset, .unset, .unset, .unset, .unset, .unset, .unset, .unset, .unset, .unset, .unset, .unset, .unset, .unset, .unset, .unset, .unset, .unset, .unset, .unset, .unset, .unset, .unset, .unset, .unset] [(.long (q2 &&& (2305843009213693951 : Int64)))])) rfl (hb hby at_14) _ ?_
    show Steps p.tables e below (s₁.setTop (mkF m 17 #[.val (.long q1), .second, .val (.long q2), .second, .val (.long q3), .second, .val (.long q4), .second, .val (.long q5), .second, .val (.int p6), .val (.long (q1 >>> ((2 : Int32) &&& 0x3f).toInt64)), .second, .val (.long (q2 &&& (2305843009213693951 : Int64))), .second, .unset, .unset, .unset, .unset, .unset, .unset, .unset, .unset, .unset, .unset, .unset, .unset, .unset, .unset, .unset, .unset, .unset, .unset, .unset, .unset, .unset, .unset, .unset, .unset, .unset, .unset, .unset, .unset, .unset, .unset, .unset, .unset, .unset] [(.long (2 : Int64)), (.long (q2 &&& (2305843009213693951 : Int64)))])) _
    refine XS.ldiv X0.here hx rfl (hb hby at_17) rfl (by decide) ?_
    show Steps p.tables e below (s₁.setTop (mkF m 18 #[.val (.long q1), .second, .val (.long q2), .second, .val (.long q3), .second, .val (.long q4), .second, .val (.long q5), .second, .val (.int p6), .val (.long (q1 >>> ((2 : Int32) &&& 0x3f).toInt64)), .second, .val (.long (q2 &&& (2305843009213693951 : Int64))), .second, .unset, .unset, .unset, .unset, .unset, .unset, .unset, .unset, .unset, .unset, .unset, .unset, .unset, .unset, .unset, .unset, .unset, .unset, .unset, .unset, .unset, .unset, .unset, .unset, .unset, .unset, .unset, .unset, .unset, .unset, .unset, .unset, .unset] [(.long ((q2 &&& (2305843009213693951 : Int64)) / (2 : Int64)))])) _
    refine XS.lstore X0.here hx rfl (hb hby at_18) rfl (l' := #[.val (.long q1), .second, .val (.long q2), .second, .val (.long q3), .second, .val (.long q4), .second, .val (.long q5), .second, .val (.int p6), .val (.long (q1 >>> ((2 : Int32) &&& 0x3f).toInt64)), .second, .val (.long (q2 &&& (2305843009213693951 : Int64))), .second, .val (.long ((q2 &&& (2305843009213693951 : Int64)) / (2 : Int64))), .second, .unset, .unset, .unset, .unset, .unset, .unset, .unset, .unset, .unset, .unset, .unset, .unset, .unset, .unset, .unset, .unset, .unset, .unset, .unset, .unset, .unset, .unset, .unset, .unset, .unset, .unset, .unset, .unset, .unset, .unset, .unset]) rfl ?_
    show Steps p.tables e below (s₁.setTop (mkF m 20 #[.val (.long q1), .second, .val (.long q2), .second, .val (.long q3), .second, .val (.long q4), .second, .val (.long q5), .second, .val (.int p6), .val (.long (q1 >>> ((2 : Int32) &&& 0x3f).toInt64)), .second, .val (.long (q2 &&& (2305843009213693951 : Int64))), .second, .val (.long ((q2 &&& (2305843009213693951 : Int64)) / (2 : Int64))), .second, .unset, .unset, .unset, .unset, .unset, .unset, .unset, .unset, .unset, .unset, .unset, .unset, .unset, .unset, .unset, .unset, .unset, .unset, .unset, .unset, .unset, .unset, .unset, .unset, .unset, .unset, .unset, .unset, .unset, .unset, .unset] [])) _
    refine XS.lload X0.here hx rfl (hb hby at_20) rfl ?_
    show Steps p.tables e below (s₁.setTop (mkF m 22 #[.val (.long q1), .second, .val (.long q2), .second, .val (.long q3), .second, .val (.long q4), .second, .val (.long q5), .second, .val (.int p6), .val (.long (q1 >>> ((2 : Int32) &&& 0x3f).toInt64)), .second, .val (.long (q2 &&& (2305843009213693951 : Int64))), .second, .val (.long ((q2 &&& (2305843009213693951 : Int64)) / (2 : Int64))), .second, .unset, .unset, .unset, .unset, .unset, .unset, .unset, .unset, .unset, .unset, .unset, .unset, .unset, .unset, .unset, .unset, .unset, .unset, .unset, .unset, .unset, .unset, .unset, .unset, .unset, .unset, .unset, .unset, .unset, .unset, .unset] [(.long (q1 >>> ((2 : Int32) &&& 0x3f).toInt64))])) _
    refine XS.lload X0.here hx rfl (hb hby at_22) rfl ?_
    show Steps p.tables e below (s₁.setTop (mkF m 24 #[.val (.long q1), .second, .val (.long q2), .second, .val (.long q3), .second, .val (.long q4), .second, .val (.long q5), .second, .val (.int p6), .val (.long (q1 >>> ((2 : Int32) &&& 0x3f).toInt64)), .second, .val (.long (q2 &&& (2305843009213693951 : Int64))), .second, .val (.long ((q2 &&& (2305843009213693951 : Int64)) / (2 : Int64))), .second, .unset, .unset, .unset, .unset, .unset, .unset, .unset, .unset, .unset, .unset, .unset, .unset, .unset, .unset, .unset, .unset, .unset, .unset, .unset, .unset, .unset, .unset, .unset, .unset, .unset, .unset, .unset, .unset, .unset, .unset, .unset] [(.long ((q2 &&& (2305843009213693951 : Int64)) / (2 : Int64))), (.long (q1 >>> ((2 : Int32) &&& 0x3f).toInt64))])) _
    refine XS.ladd X0.here hx rfl (hb hby at_24) rfl ?_
    show Steps p.tables e below (s₁.setTop (mkF m 25 #[.val (.long q1), .second, .val (.long q2), .second, .val (.long q3), .second, .val (.long q4), .second, .val (.long q5), .second, .val (.int p6), .val (.long (q1 >>> ((2 : Int32) &&& 0x3f).toInt64)), .second, .val (.long (q2 &&& (2305843009213693951 : Int64))), .second, .val (.long ((q2 &&& (2305843009213693951 : Int64)) / (2 : Int64))), .second, .unset, .unset, .unset, .unset, .unset, .unset, .unset, .unset, .unset, .unset, .unset, .unset, .unset, .unset, .unset, .unset, .unset, .unset, .unset, .unset, .unset, .unset, .unset, .unset, .unset, .unset, .unset, .unset, .unset, .unset, .unset] [(.long ((q1 >>> ((2 : Int32) &&& 0x3f).toInt64) + ((q2 &&& (2305843009213693951 : Int64)) / (2 : Int64))))])) _
    refine XS.lstore X0.here hx rfl (hb hby at_25) rfl (l' := #[.val (.long q1), .second, .val (.long q2), .second, .val (.long q3), .second, .val (.long q4), .second, .val (.long q5), .second, .val (.int p6), .val (.long (q1 >>> ((2 : Int32) &&& 0x3f).toInt64)), .second, .val (.long (q2 &&& (2305843009213693951 : Int64))), .second, .val (.long ((q2 &&& (2305843009213693951 : Int64)) / (2 : Int64))), .second, .val (.long ((q1 >>> ((2 : Int32) &&& 0x3f).toInt64) + ((q2 &&& (2305843009213693951 : Int64)) / (2 : Int64)))), .second, .unset, .unset, .unset, .unset, .unset, .unset, .unset, .unset, .unset, .unset, .unset, .unset, .unset, .unset, .unset, .unset, .unset, .unset, .unset, .unset, .unset, .unset, .unset, .unset, .unset, .unset, .unset, .unset, .unset]) rfl ?_
    show Steps p.tables e below (s₁.setTop (mkF m 27 #[.val (.long q1), .second, .val (.long q2), .second, .val (.long q3), .second, .val (.long q4), .second, .val (.long q5), .second, .val (.int p6), .val (.long (q1 >>> ((2 : Int32) &&& 0x3f).toInt64)), .second, .val (.long (q2 &&& (2305843009213693951 : Int64))), .second, .val (.long ((q2 &&& (2305843009213693951 : Int64)) / (2 : Int64))), .second, .val (.long ((q1 >>> ((2 : Int32) &&& 0x3f).toInt64) + ((q2 &&& (2305843009213693951 : Int64)) / (2 : Int64)))), .second, .unset, .unset, .unset, .unset, .unset, .unset, .unset, .unset, .unset, .unset, .unset, .unset, .unset, .unset, .unset, .unset, .unset, .unset, .unset, .unset, .unset, .unset, .unset, .unset, .unset, .unset, .unset, .unset, .unset] [])) _
    exact kt
  obtain ⟨bb, dd, hh, dl, Tj2, lj2, Xj2, Nj2, ej2, pj7, pj8, pj9, pj10, prej2⟩ : ∃ (bb : Int64) (dd : Int64) (hh : Int64) (dl : Int64) (Tj2 : State) (lj2 : List Loc), Stand p l e room_1 s m #[(.long q1), (.long q2), (.long q3), (.long q4), (.long q5), (.int p6)] below meth c Tj2 lj2 0 0 ∧ Fr n0 lj2 ∧ Tj2.heap = h0 ∧ (-2305843009213693952 ≤ bb.toInt ∧ bb.toInt < 2305843009213693952) ∧ (0 ≤ dd.toInt ∧ dd.toInt < 2305843009213693952) ∧ hh.toInt = dd.toInt / 2 ∧ dl.toInt.natAbs ≤ 2 ^ 30 ∧ own_Go p e below S0 (Tj2.setTop (mkF m 47 #[.val (.long q1), .second, .val (.long q2), .second, .val (.long q3), .second, .val (.long q4), .second, .val (.long q5), .second, .val (.int p6), .val (.long bb), .second, .val (.long dd), .second, .val (.long hh), .second, .val (.long (bb + hh)), .second, .val (.long dl), .second, .unset, .unset, .unset, .unset, .unset, .unset, .unset, .unset, .unset, .unset, .unset, .unset, .unset, .unset, .unset, .unset, .unset, .unset, .unset, .unset, .unset, .unset, .unset, .unset, .unset, .unset, .unset] [])) := by
    have pre4 : own_Go p e below S0 (s₁.setTop (mkF m 33 #[.val (.long q1), .second, .val (.long q2), .second, .val (.long q3), .second, .val (.long q4), .second, .val (.long q5), .second, .val (.int p6), .val (.long (q1 >>> ((2 : Int32) &&& 0x3f).toInt64)), .second, .val (.long (q2 &&& (2305843009213693951 : Int64))), .second, .val (.long ((q2 &&& (2305843009213693951 : Int64)) / (2 : Int64))), .second, .val (.long ((q1 >>> ((2 : Int32) &&& 0x3f).toInt64) + ((q2 &&& (2305843009213693951 : Int64)) / (2 : Int64)))), .second, .unset, .unset, .unset, .unset, .unset, .unset, .unset, .unset, .unset, .unset, .unset, .unset, .unset, .unset, .unset, .unset, .unset, .unset, .unset, .unset, .unset, .unset, .unset, .unset, .unset, .unset, .unset, .unset, .unset] [(.int (lcmpW (q5 &&& (1 : Int64)) (0 : Int64)))])) := by
      intro t kt
      refine pre1 t ?_
      refine XS.lload X0.here hx rfl (hb hby at_27) rfl ?_
      show Steps p.tables e below (s₁.setTop (mkF m 29 #[.val (.long q1), .second, .val (.long q2), .second, .val (.long q3), .second, .val (.long q4), .second, .val (.long q5), .second, .val (.int p6), .val (.long (q1 >>> ((2 : Int32) &&& 0x3f).toInt64)), .second, .val (.long (q2 &&& (2305843009213693951 : Int64))), .second, .val (.long ((q2 &&& (2305843009213693951 : Int64)) / (2 : Int64))), .second, .val (.long ((q1 >>> ((2 : Int32) &&& 0x3f).toInt64) + ((q2 &&& (2305843009213693951 : Int64)) / (2 : Int64)))), .second, .unset, .unset, .unset, .unset, .unset, .unset, .unset, .unset, .unset, .unset, .unset, .unset, .unset, .unset, .unset, .unset, .unset, .unset, .unset, .unset, .unset, .unset, .unset, .unset, .unset, .unset, .unset, .unset, .unset] [(.long q5)])) _
      refine XS.lconst X0.here hx rfl (hb hby at_29) ?_
      show Steps p.tables e below (s₁.setTop (mkF m 30 #[.val (.long q1), .second, .val (.long q2), .second, .val (.long q3), .second, .val (.long q4), .second, .val (.long q5), .second, .val (.int p6), .val (.long (q1 >>> ((2 : Int32) &&& 0x3f).toInt64)), .second, .val (.long (q2 &&& (2305843009213693951 : Int64))), .second, .val (.long ((q2 &&& (2305843009213693951 : Int64)) / (2 : Int64))), .second, .val (.long ((q1 >>> ((2 : Int32) &&& 0x3f).toInt64) + ((q2 &&& (2305843009213693951 : Int64)) / (2 : Int64)))), .second, .unset, .unset, .unset, .unset, .unset, .unset, .unset, .unset, .unset, .unset, .unset, .unset, .unset, .unset, .unset, .unset, .unset, .unset, .unset, .unset, .unset, .unset, .unset, .unset, .unset, .unset, .unset, .unset, .unset] [(.long (1 : Int64)), (.long q5)])) _
      refine XS.land X0.here hx rfl (hb hby at_30) rfl ?_
      show Steps p.tables e below (s₁.setTop (mkF m 31 #[.val (.long q1), .second, .val (.long q2), .second, .val (.long q3), .second, .val (.long q4), .second, .val (.long q5), .second, .val (.int p6), .val (.long (q1 >>> ((2 : Int32) &&& 0x3f).toInt64)), .second, .val (.long (q2 &&& (2305843009213693951 : Int64))), .second, .val (.long ((q2 &&& (2305843009213693951 : Int64)) / (2 : Int64))), .second, .val (.long ((q1 >>> ((2 : Int32) &&& 0x3f).toInt64) + ((q2 &&& (2305843009213693951 : Int64)) / (2 : Int64)))), .second, .unset, .unset, .unset, .unset, .unset, .unset, .unset, .unset, .unset, .unset, .unset, .unset, .unset, .unset, .unset, .unset, .unset, .unset, .unset, .unset, .unset, .unset, .unset, .unset, .unset, .unset, .unset, .unset, .unset] [(.long (q5 &&& (1 : Int64)))])) _
      refine XS.lconst X0.here hx rfl (hb hby at_31) ?_
      show Steps p.tables e below (s₁.setTop (mkF m 32 #[.val (.long q1), .second, .val (.long q2), .second, .val (.long q3), .second, .val (.long q4), .second, .val (.long q5), .second, .val (.int p6), .val (.long (q1 >>> ((2 : Int32) &&& 0x3f).toInt64)), .second, .val (.long (q2 &&& (2305843009213693951 : Int64))), .second, .val (.long ((q2 &&& (2305843009213693951 : Int64)) / (2 : Int64))), .second, .val (.long ((q1 >>> ((2 : Int32) &&& 0x3f).toInt64) + ((q2 &&& (2305843009213693951 : Int64)) / (2 : Int64)))), .second, .unset, .unset, .unset, .unset, .unset, .unset, .unset, .unset, .unset, .unset, .unset, .unset, .unset, .unset, .unset, .unset, .unset, .unset, .unset, .unset, .unset, .unset, .unset, .unset, .unset, .unset, .unset, .unset, .unset] [(.long (0 : Int64)), (.long (q5 &&& (1 : Int64)))])) _
      refine XS.lcmp X0.here hx rfl (hb hby at_32) rfl ?_
      show Steps p.tables e below (s₁.setTop (mkF m 33 #[.val (.long q1), .second, .val (.long q2), .second, .val (.long q3), .second, .val (.long q4), .second, .val (.long q5), .second, .val (.int p6), .val (.long (q1 >>> ((2 : Int32) &&& 0x3f).toInt64)), .second, .val (.long (q2 &&& (2305843009213693951 : Int64))), .second, .val (.long ((q2 &&& (2305843009213693951 : Int64)) / (2 : Int64))), .second, .val (.long ((q1 >>> ((2 : Int32) &&& 0x3f).toInt64) + ((q2 &&& (2305843009213693951 : Int64)) / (2 : Int64)))), .second, .unset, .unset, .unset, .unset, .unset, .unset, .unset, .unset, .unset, .unset, .unset, .unset, .unset, .unset, .unset, .unset, .unset, .unset, .unset, .unset, .unset, .unset, .unset, .unset, .unset, .unset, .unset, .unset, .unset] [(.int (lcmpW (q5 &&& (1 : Int64)) (0 : Int64)))])) _
      exact kt
    by_cases hc3 : (q5 &&& (1 : Int64)) = (0 : Int64)
    · have pre5 : own_Go p e below S0 (s₁.setTop (mkF m 47 #[.val (.long q1), .second, .val (.long q2), .second, .val (.long q3), .second, .val (.long q4), .second, .val (.long q5), .second, .val (.int p6), .val (.long (q1 >>> ((2 : Int32) &&& 0x3f).toInt64)), .second, .val (.long (q2 &&& (2305843009213693951 : Int64))), .second, .val (.long ((q2 &&& (2305843009213693951 : Int64)) / (2 : Int64))), .second, .val (.long ((q1 >>> ((2 : Int32) &&& 0x3f).toInt64) + ((q2 &&& (2305843009213693951 : Int64)) / (2 : Int64)))), .second, .val (.long (0 : Int64)), .second, .unset, .unset, .unset, .unset, .unset, .unset, .unset, .unset, .unset, .unset, .unset, .unset, .unset, .unset, .unset, .unset, .unset, .unset, .unset, .unset, .unset, .unset, .unset, .unset, .unset, .unset, .unset] [])) := by
        intro t kt
        refine pre4 t ?_
        refine XS.ifNo X0.here hx rfl (hb hby at_33) rfl ((if0 _ _).trans (teq ((lw_eq _ _).mpr hc3)).2) ?_
        show Steps p.tables e below (s₁.setTop (mkF m 36 #[.val (.long q1), .second, .val (.long q2), .second, .val (.long q3), .second, .val (.long q4), .second, .val (.long q5), .second, .val (.int p6), .val (.long (q1 >>> ((2 : Int32) &&& 0x3f).toInt64)), .second, .val (.long (q2 &&& (2305843009213693951 : Int64))), .second, .val (.long ((q2 &&& (2305843009213693951 : Int64)) / (2 : Int64))), .second, .val (.long ((q1 >>> ((2 : Int32) &&& 0x3f).toInt64) + ((q2 &&& (2305843009213693951 : Int64)) / (2 : Int64)))), .second, .unset, .unset, .unset, .unset, .unset, .unset, .unset, .unset, .unset, .unset, .unset, .unset, .unset, .unset, .unset, .unset, .unset, .unset, .unset, .unset, .unset, .unset, .unset, .unset, .unset, .unset, .unset, .unset, .unset] [])) _
        refine XS.lconst X0.here hx rfl (hb hby at_36) ?_
        show Steps p.tables e below (s₁.setTop (mkF m 37 #[.val (.long q1), .second, .val (.long q2), .second, .val (.long q3), .second, .val (.long q4), .second, .val (.long q5), .second, .val (.int p6), .val (.long (q1 >>> ((2 : Int32) &&& 0x3f).toInt64)), .second, .val (.long (q2 &&& (2305843009213693951 : Int64))), .second, .val (.long ((q2 &&& (2305843009213693951 : Int64)) / (2 : Int64))), .second, .val (.long ((q1 >>> ((2 : Int32) &&& 0x3f).toInt64) + ((q2 &&& (2305843009213693951 : Int64)) / (2 : Int64)))), .second, .unset, .unset, .unset, .unset, .unset, .unset, .unset, .unset, .unset, .unset, .unset, .unset, .unset, .unset, .unset, .unset, .unset, .unset, .unset, .unset, .unset, .unset, .unset, .unset, .unset, .unset, .unset, .unset, .unset] [(.long (0 : Int64))])) _
        refine XS.goto X0.here hx rfl (pc0 := 37) (pc' := 45) rfl (hb hby at_37) (by decide) (by decide) ?_
        show Steps p.tables e below (s₁.setTop (mkF m 45 #[.val (.long q1), .second, .val (.long q2), .second, .val (.long q3), .second, .val (.long q4), .second, .val (.long q5), .second, .val (.int p6), .val (.long (q1 >>> ((2 : Int32) &&& 0x3f).toInt64)), .second, .val (.long (q2 &&& (2305843009213693951 : Int64))), .second, .val (.long ((q2 &&& (2305843009213693951 : Int64)) / (2 : Int64))), .second, .val (.long ((q1 >>> ((2 : Int32) &&& 0x3f).toInt64) + ((q2 &&& (2305843009213693951 : Int64)) / (2 : Int64)))), .second, .unset, .unset, .unset, .unset, .unset, .unset, .unset, .unset, .unset, .unset, .unset, .unset, .unset, .unset, .unset, .unset, .unset, .unset, .unset, .unset, .unset, .unset, .unset, .unset, .unset, .unset, .unset, .unset, .unset] [(.long (0 : Int64))])) _
        refine XS.lstore X0.here hx rfl (hb hby at_45) rfl (l' := #[.val (.long q1), .second, .val (.long q2), .second, .val (.long q3), .second, .val (.long q4), .second, .val (.long q5), .second, .val (.int p6), .val (.long (q1 >>> ((2 : Int32) &&& 0x3f).toInt64)), .second, .val (.long (q2 &&& (2305843009213693951 : Int64))), .second, .val (.long ((q2 &&& (2305843009213693951 : Int64)) / (2 : Int64))), .second, .val (.long ((q1 >>> ((2 : Int32) &&& 0x3f).toInt64) + ((q2 &&& (2305843009213693951 : Int64)) / (2 : Int64)))), .second, .val (.long (0 : Int64)), .second, .unset, .unset, .unset, .unset, .unset, .unset, .unset, .unset, .unset, .unset, .unset, .unset, .unset, .unset, .unset, .unset, .unset, .unset, .unset, .unset, .unset, .unset, .unset, .unset, .unset, .unset, .unset]) rfl ?_
        show Steps p.tables e below (s₁.setTop (mkF m 47 #[.val (.long q1), .second, .val (.long q2), .second, .val (.long q3), .second, .val (.long q4), .second, .val (.long q5), .second, .val (.int p6), .val (.long (q1 >>> ((2 : Int32) &&& 0x3f).toInt64)), .second, .val (.long (q2 &&& (2305843009213693951 : Int64))), .second, .val (.long ((q2 &&& (2305843009213693951 : Int64)) / (2 : Int64))), .second, .val (.long ((q1 >>> ((2 : Int32) &&& 0x3f).toInt64) + ((q2 &&& (2305843009213693951 : Int64)) / (2 : Int64)))), .second, .val (.long (0 : Int64)), .second, .unset, .unset, .unset, .unset, .unset, .unset, .unset, .unset, .unset, .unset, .unset, .unset, .unset, .unset, .unset, .unset, .unset, .unset, .unset, .unset, .unset, .unset, .unset, .unset, .unset, .unset, .unset] [])) _
        exact kt
      exact ⟨(q1 >>> ((2 : Int32) &&& 0x3f).toInt64), (q2 &&& (2305843009213693951 : Int64)), ((q2 &&& (2305843009213693951 : Int64)) / (2 : Int64)), (0 : Int64), s₁, _, (Stand.mono X0 (by decide) (by decide)), N0, e0, (own_b _), (own_dm _), (own_hf (own_dm _)), (by decide), pre5⟩
    · have pre6 : own_Go p e below S0 (s₁.setTop (mkF m 47 #[.val (.long q1), .second, .val (.long q2), .second, .val (.long q3), .second, .val (.long q4), .second, .val (.long q5), .second, .val (.int p6), .val (.long (q1 >>> ((2 : Int32) &&& 0x3f).toInt64)), .second, .val (.long (q2 &&& (2305843009213693951 : Int64))), .second, .val (.long ((q2 &&& (2305843009213693951 : Int64)) / (2 : Int64))), .second, .val (.long ((q1 >>> ((2 : Int32) &&& 0x3f).toInt64) + ((q2 &&& (2305843009213693951 : Int64)) / (2 : Int64)))), .second, .val (.long (q5 >>> ((34 : Int32) &&& 0x3f).toInt64)), .second, .unset, .unset, .unset, .unset, .unset, .unset, .unset, .unset, .unset, .unset, .unset, .unset, .unset, .unset, .unset, .unset, .unset, .unset, .unset, .unset, .unset, .unset, .unset, .unset, .unset, .unset, .unset] [])) := by
        intro t kt
        refine pre4 t ?_
        refine XS.ifYes X0.here hx rfl (pc0 := 33) (pc' := 40) rfl (hb hby at_33) rfl ((if0 _ _).trans (feq (fun q => hc3 ((lw_eq _ _).mp q))).2) (by decide) (by decide) ?_
        show Steps p.tables e below (s₁.setTop (mkF m 40 #[.val (.long q1), .second, .val (.long q2), .second, .val (.long q3), .second, .val (.long q4), .second, .val (.long q5), .second, .val (.int p6), .val (.long (q1 >>> ((2 : Int32) &&& 0x3f).toInt64)), .second, .val (.long (q2 &&& (2305843009213693951 : Int64))), .second, .val (.long ((q2 &&& (2305843009213693951 : Int64)) / (2 : Int64))), .second, .val (.long ((q1 >>> ((2 : Int32) &&& 0x3f).toInt64) + ((q2 &&& (2305843009213693951 : Int64)) / (2 : Int64)))), .second, .unset, .unset, .unset, .unset, .unset, .unset, .unset, .unset, .unset, .unset, .unset, .unset, .unset, .unset, .unset, .unset, .unset, .unset, .unset, .unset, .unset, .unset, .unset, .unset, .unset, .unset, .unset, .unset, .unset] [])) _
        refine XS.lload X0.here hx rfl (hb hby at_40) rfl ?_
        show Steps p.tables e below (s₁.setTop (mkF m 42 #[.val (.long q1), .second, .val (.long q2), .second, .val (.long q3), .second, .val (.long q4), .second, .val (.long q5), .second, .val (.int p6), .val (.long (q1 >>> ((2 : Int32) &&& 0x3f).toInt64)), .second, .val (.long (q2 &&& (2305843009213693951 : Int64))), .second, .val (.long ((q2 &&& (2305843009213693951 : Int64)) / (2 : Int64))), .second, .val (.long ((q1 >>> ((2 : Int32) &&& 0x3f).toInt64) + ((q2 &&& (2305843009213693951 : Int64)) / (2 : Int64)))), .second, .unset, .unset, .unset, .unset, .unset, .unset, .unset, .unset, .unset, .unset, .unset, .unset, .unset, .unset, .unset, .unset, .unset, .unset, .unset, .unset, .unset, .unset, .unset, .unset, .unset, .unset, .unset, .unset, .unset] [(.long q5)])) _
        refine XS.bipush X0.here hx rfl (hb hby at_42) ?_
        show Steps p.tables e below (s₁.setTop (mkF m 44 #[.val (.long q1), .second, .val (.long q2), .second, .val (.long q3), .second, .val (.long q4), .second, .val (.long q5), .second, .val (.int p6), .val (.long (q1 >>> ((2 : Int32) &&& 0x3f).toInt64)), .second, .val (.long (q2 &&& (2305843009213693951 : Int64))), .second, .val (.long ((q2 &&& (2305843009213693951 : Int64)) / (2 : Int64))), .second, .val (.long ((q1 >>> ((2 : Int32) &&& 0x3f).toInt64) + ((q2 &&& (2305843009213693951 : Int64)) / (2 : Int64)))), .second, .unset, .unset, .unset, .unset, .unset, .unset, .unset, .unset, .unset, .unset, .unset, .unset, .unset, .unset, .unset, .unset, .unset, .unset, .unset, .unset, .unset, .unset, .unset, .unset, .unset, .unset, .unset, .unset, .unset] [(.int (34 : Int32)), (.long q5)])) _
        refine XS.lshr X0.here hx rfl (hb hby at_44) rfl ?_
        show Steps p.tables e below (s₁.setTop (mkF m 45 #[.val (.long q1), .second, .val (.long q2), .second, .val (.long q3), .second, .val (.long q4), .second, .val (.long q5), .second, .val (.int p6), .val (.long (q1 >>> ((2 : Int32) &&& 0x3f).toInt64)), .second, .val (.long (q2 &&& (2305843009213693951 : Int64))), .second, .val (.long ((q2 &&& (2305843009213693951 : Int64)) / (2 : Int64))), .second, .val (.long ((q1 >>> ((2 : Int32) &&& 0x3f).toInt64) + ((q2 &&& (2305843009213693951 : Int64)) / (2 : Int64)))), .second, .unset, .unset, .unset, .unset, .unset, .unset, .unset, .unset, .unset, .unset, .unset, .unset, .unset, .unset, .unset, .unset, .unset, .unset, .unset, .unset, .unset, .unset, .unset, .unset, .unset, .unset, .unset, .unset, .unset] [(.long (q5 >>> ((34 : Int32) &&& 0x3f).toInt64))])) _
        refine XS.lstore X0.here hx rfl (hb hby at_45) rfl (l' := #[.val (.long q1), .second, .val (.long q2), .second, .val (.long q3), .second, .val (.long q4), .second, .val (.long q5), .second, .val (.int p6), .val (.long (q1 >>> ((2 : Int32) &&& 0x3f).toInt64)), .second, .val (.long (q2 &&& (2305843009213693951 : Int64))), .second, .val (.long ((q2 &&& (2305843009213693951 : Int64)) / (2 : Int64))), .second, .val (.long ((q1 >>> ((2 : Int32) &&& 0x3f).toInt64) + ((q2 &&& (2305843009213693951 : Int64)) / (2 : Int64)))), .second, .val (.long (q5 >>> ((34 : Int32) &&& 0x3f).toInt64)), .second, .unset, .unset, .unset, .unset, .unset, .unset, .unset, .unset, .unset, .unset, .unset, .unset, .unset, .unset, .unset, .unset, .unset, .unset, .unset, .unset, .unset, .unset, .unset, .unset, .unset, .unset, .unset]) rfl ?_
        show Steps p.tables e below (s₁.setTop (mkF m 47 #[.val (.long q1), .second, .val (.long q2), .second, .val (.long q3), .second, .val (.long q4), .second, .val (.long q5), .second, .val (.int p6), .val (.long (q1 >>> ((2 : Int32) &&& 0x3f).toInt64)), .second, .val (.long (q2 &&& (2305843009213693951 : Int64))), .second, .val (.long ((q2 &&& (2305843009213693951 : Int64)) / (2 : Int64))), .second, .val (.long ((q1 >>> ((2 : Int32) &&& 0x3f).toInt64) + ((q2 &&& (2305843009213693951 : Int64)) / (2 : Int64)))), .second, .val (.long (q5 >>> ((34 : Int32) &&& 0x3f).toInt64)), .second, .unset, .unset, .unset, .unset, .unset, .unset, .unset, .unset, .unset, .unset, .unset, .unset, .unset, .unset, .unset, .unset, .unset, .unset, .unset, .unset, .unset, .unset, .unset, .unset, .unset, .unset, .unset] [])) _
        exact kt
      exact ⟨(q1 >>> ((2 : Int32) &&& 0x3f).toInt64), (q2 &&& (2305843009213693951 : Int64)), ((q2 &&& (2305843009213693951 : Int64)) / (2 : Int64)), (q5 >>> ((34 : Int32) &&& 0x3f).toInt64), s₁, _, (Stand.mono X0 (by decide) (by decide)), N0, e0, (own_b _), (own_dm _), (own_hf (own_dm _)), (own_sh _), pre6⟩
  have phh : 0 ≤ hh.toInt ∧ hh.toInt < 1152921504606846976 := by rw [pj9]; omega
  have pre11 : own_Go p e below S0 (Tj2.setTop (mkF m 59 #[.val (.long q1), .second, .val (.long q2), .second, .val (.long q3), .second, .val (.long q4), .second, .val (.long q5), .second, .val (.int p6), .val (.long bb), .second, .val (.long dd), .second, .val (.long hh), .second, .val (.long (bb + hh)), .second, .val (.long dl), .second, .val (.long (q4 >>> ((40 : Int32) &&& 0x3f).toInt64)), .second, .unset, .unset, .unset, .unset, .unset, .unset, .unset, .unset, .unset, .unset, .unset, .unset, .unset, .unset, .unset, .unset, .unset, .unset, .unset, .unset, .unset, .unset, .unset, .unset, .unset] [(.long (hh + (q4 >>> ((40 : Int32) &&& 0x3f).toInt64)))])) := by
    intro t kt
    refine prej2 t ?_
    refine XS.lload Xj2.here hx rfl (hb hby at_47) rfl ?_
    show Steps p.tables e below (Tj2.setTop (mkF m 49 #[.val (.long q1), .second, .val (.long q2), .second, .val (.long q3), .second, .val (.long q4), .second, .val (.long q5), .second, .val (.int p6), .val (.long bb), .second, .val (.long dd), .second, .val (.long hh), .second, .val (.long (bb + hh)), .second, .val (.long dl), .second, .unset, .unset, .unset, .unset, .unset, .unset, .unset, .unset, .unset, .unset, .unset, .unset, .unset, .unset, .unset, .unset, .unset, .unset, .unset, .unset, .unset, .unset, .unset, .unset, .unset, .unset, .unset] [(.long q4)])) _
    refine XS.bipush Xj2.here hx rfl (hb hby at_49) ?_
    show Steps p.tables e below (Tj2.setTop (mkF m 51 #[.val (.long q1), .second, .val (.long q2), .second, .val (.long q3), .second, .val (.long q4), .second, .val (.long q5), .second, .val (.int p6), .val (.long bb), .second, .val (.long dd), .second, .val (.long hh), .second, .val (.long (bb + hh)), .second, .val (.long dl), .second, .unset, .unset, .unset, .unset, .unset, .unset, .unset, .unset, .unset, .unset, .unset, .unset, .unset, .unset, .unset, .unset, .unset, .unset, .unset, .unset, .unset, .unset, .unset, .unset, .unset, .unset, .unset] [(.int (40 : Int32)), (.long q4)])) _
    refine XS.lshr Xj2.here hx rfl (hb hby at_51) rfl ?_
    show Steps p.tables e below (Tj2.setTop (mkF m 52 #[.val (.long q1), .second, .val (.long q2), .second, .val (.long q3), .second, .val (.long q4), .second, .val (.long q5), .second, .val (.int p6), .val (.long bb), .second, .val (.long dd), .second, .val (.long hh), .second, .val (.long (bb + hh)), .second, .val (.long dl), .second, .unset, .unset, .unset, .unset, .unset, .unset, .unset, .unset, .unset, .unset, .unset, .unset, .unset, .unset, .unset, .unset, .unset, .unset, .unset, .unset, .unset, .unset, .unset, .unset, .unset, .unset, .unset] [(.long (q4 >>> ((40 : Int32) &&& 0x3f).toInt64))])) _
    refine XS.lstore Xj2.here hx rfl (hb hby at_52) rfl (l' := #[.val (.long q1), .second, .val (.long q2), .second, .val (.long q3), .second, .val (.long q4), .second, .val (.long q5), .second, .val (.int p6), .val (.long bb), .second, .val (.long dd), .second, .val (.long hh), .second, .val (.long (bb + hh)), .second, .val (.long dl), .second, .val (.long (q4 >>> ((40 : Int32) &&& 0x3f).toInt64)), .second, .unset, .unset, .unset, .unset, .unset, .unset, .unset, .unset, .unset, .unset, .unset, .unset, .unset, .unset, .unset, .unset, .unset, .unset, .unset, .unset, .unset, .unset, .unset, .unset, .unset]) rfl ?_
    show Steps p.tables e below (Tj2.setTop (mkF m 54 #[.val (.long q1), .second, .val (.long q2), .second, .val (.long q3), .second, .val (.long q4), .second, .val (.long q5), .second, .val (.int p6), .val (.long bb), .second, .val (.long dd), .second, .val (.long hh), .second, .val (.long (bb + hh)), .second, .val (.long dl), .second, .val (.long (q4 >>> ((40 : Int32) &&& 0x3f).toInt64)), .second, .unset, .unset, .unset, .unset, .unset, .unset, .unset, .unset, .unset, .unset, .unset, .unset, .unset, .unset, .unset, .unset, .unset, .unset, .unset, .unset, .unset, .unset, .unset, .unset, .unset] [])) _
    refine XS.lload Xj2.here hx rfl (hb hby at_54) rfl ?_
    show Steps p.tables e below (Tj2.setTop (mkF m 56 #[.val (.long q1), .second, .val (.long q2), .second, .val (.long q3), .second, .val (.long q4), .second, .val (.long q5), .second, .val (.int p6), .val (.long bb), .second, .val (.long dd), .second, .val (.long hh), .second, .val (.long (bb + hh)), .second, .val (.long dl), .second, .val (.long (q4 >>> ((40 : Int32) &&& 0x3f).toInt64)), .second, .unset, .unset, .unset, .unset, .unset, .unset, .unset, .unset, .unset, .unset, .unset, .unset, .unset, .unset, .unset, .unset, .unset, .unset, .unset, .unset, .unset, .unset, .unset, .unset, .unset] [(.long hh)])) _
    refine XS.lload Xj2.here hx rfl (hb hby at_56) rfl ?_
    show Steps p.tables e below (Tj2.setTop (mkF m 58 #[.val (.long q1), .second, .val (.long q2), .second, .val (.long q3), .second, .val (.long q4), .second, .val (.long q5), .second, .val (.int p6), .val (.long bb), .second, .val (.long dd), .second, .val (.long hh), .second, .val (.long (bb + hh)), .second, .val (.long dl), .second, .val (.long (q4 >>> ((40 : Int32) &&& 0x3f).toInt64)), .second, .unset, .unset, .unset, .unset, .unset, .unset, .unset, .unset, .unset, .unset, .unset, .unset, .unset, .unset, .unset, .unset, .unset, .unset, .unset, .unset, .unset, .unset, .unset, .unset, .unset] [(.long (q4 >>> ((40 : Int32) &&& 0x3f).toInt64)), (.long hh)])) _
    refine XS.ladd Xj2.here hx rfl (hb hby at_58) rfl ?_
    show Steps p.tables e below (Tj2.setTop (mkF m 59 #[.val (.long q1), .second, .val (.long q2), .second, .val (.long q3), .second, .val (.long q4), .second, .val (.long q5), .second, .val (.int p6), .val (.long bb), .second, .val (.long dd), .second, .val (.long hh), .second, .val (.long (bb + hh)), .second, .val (.long dl), .second, .val (.long (q4 >>> ((40 : Int32) &&& 0x3f).toInt64)), .second, .unset, .unset, .unset, .unset, .unset, .unset, .unset, .unset, .unset, .unset, .unset, .unset, .unset, .unset, .unset, .unset, .unset, .unset, .unset, .unset, .unset, .unset, .unset, .unset, .unset] [(.long (hh + (q4 >>> ((40 : Int32) &&& 0x3f).toInt64)))])) _
    exact kt
  obtain ⟨_, _, ⟨T12, L12, k12, n12⟩, -, X12, ⟨Lc12, hQ12, l12, y12, z12⟩, st12⟩ := Jvm.LawKit.callS Xj2 hx (y := (⟨"java/lang/Math", "abs", "(J)J"⟩ : MethodName)) hown (mvT hZ (hw _ (own_w 2 rfl))) (mvT hZ (hw _ (own_w 3 rfl))) (mvT hZ (hw _ (own_w 4 rfl))) (mvT hZ (hw _ (own_w 5 rfl))) (by decide) (backOf (W := 0) (rm1 l Z a0 hw [] (hh + (q4 >>> ((40 : Int32) &&& 0x3f).toInt64)) h0 n0 Z0 ) hZ (hw _ (own_w 5 rfl)) (hw _ (own_w 4 rfl)) (by decide) (by decide)) (g := (mkF m 59 #[.val (.long q1), .second, .val (.long q2), .second, .val (.long q3), .second, .val (.long q4), .second, .val (.long q5), .second, .val (.int p6), .val (.long bb), .second, .val (.long dd), .second, .val (.long hh), .second, .val (.long (bb + hh)), .second, .val (.long dl), .second, .val (.long (q4 >>> ((40 : Int32) &&& 0x3f).toInt64)), .second, .unset, .unset, .unset, .unset, .unset, .unset, .unset, .unset, .unset, .unset, .unset, .unset, .unset, .unset, .unset, .unset, .unset, .unset, .unset, .unset, .unset, .unset, .unset, .unset, .unset] [(.long (hh + (q4 >>> ((40 : Int32) &&& 0x3f).toInt64)))])) rfl (by rw [hml]; rfl) (argsL := [(.long (hh + (q4 >>> ((40 : Int32) &&& 0x3f).toInt64)))]) (rest := []) (lenOf pd_3 rfl) rfl (by show 2 * 0 + _ ≤ _; exact Nat.le_of_eq rfl) (hb hby at_59) (fun _ _ => ⟨rfl, ej2, (by decide : 0 + 0 ≤ _), (by decide : 0 + 0 ≤ _)⟩)
  dsimp only [Pt.U, Pt.locs, Pt.cells, Pt.slots] at X12 l12 y12 z12 st12 hQ12
  subst l12 y12 z12
  obtain ⟨rfl, Nq12, eq12⟩ := hQ12
  have N12 := Fr.app Nj2 Nq12
  have pre13 : own_Go p e below S0 (T12.setTop (mkF m 85 #[.val (.long q1), .second, .val (.long q2), .second, .val (.long q3), .second, .val (.long q4), .second, .val (.long q5), .second, .val (.int p6), .val (.long bb), .second, .val (.long dd), .second, .val (.long hh), .second, .val (.long (bb + hh)), .second, .val (.long dl), .second, .val (.long (q4 >>> ((40 : Int32) &&& 0x3f).toInt64)), .second, .val (.long (own_abs (hh + (q4 >>> ((40 : Int32) &&& 0x3f).toInt64)))), .second, .val (.long (q4 &&& (1 : Int64))), .second, .val (.long ((bb + hh) + dl)), .second, .val (.long (q3 ^^^ (-1 : Int64))), .second, .unset, .unset, .unset, .unset, .unset, .unset, .unset, .unset, .unset, .unset, .unset, .unset, .unset, .unset, .unset, .unset, .unset] [])) := by
    intro t kt
    refine pre11 t ?_
    refine st12 _ ?_
    show Steps p.tables e below (T12.setTop (mkF m 62 #[.val (.long q1), .second, .val (.long q2), .second, .val (.long q3), .second, .val (.long q4), .second, .val (.long q5), .second, .val (.int p6), .val (.long bb), .second, .val (.long dd), .second, .val (.long hh), .second, .val (.long (bb + hh)), .second, .val (.long dl), .second, .val (.long (q4 >>> ((40 : Int32) &&& 0x3f).toInt64)), .second, .unset, .unset, .unset, .unset, .unset, .unset, .unset, .unset, .unset, .unset, .unset, .unset, .unset, .unset, .unset, .unset, .unset, .unset, .unset, .unset, .unset, .unset, .unset, .unset, .unset] [(.long (own_abs (hh + (q4 >>> ((40 : Int32) &&& 0x3f).toInt64))))])) _
    refine XS.lstore X12.here hx rfl (hb hby at_62) rfl (l' := #[.val (.long q1), .second, .val (.long q2), .second, .val (.long q3), .second, .val (.long q4), .second, .val (.long q5), .second, .val (.int p6), .val (.long bb), .second, .val (.long dd), .second, .val (.long hh), .second, .val (.long (bb + hh)), .second, .val (.long dl), .second, .val (.long (q4 >>> ((40 : Int32) &&& 0x3f).toInt64)), .second, .val (.long (own_abs (hh + (q4 >>> ((40 : Int32) &&& 0x3f).toInt64)))), .second, .unset, .unset, .unset, .unset, .unset, .unset, .unset, .unset, .unset, .unset, .unset, .unset, .unset, .unset, .unset, .unset, .unset, .unset, .unset, .unset, .unset, .unset, .unset]) rfl ?_
    show Steps p.tables e below (T12.setTop (mkF m 64 #[.val (.long q1), .second, .val (.long q2), .second, .val (.long q3), .second, .val (.long q4), .second, .val (.long q5), .second, .val (.int p6), .val (.long bb), .second, .val (.long dd), .second, .val (.long hh), .second, .val (.long (bb + hh)), .second, .val (.long dl), .second, .val (.long (q4 >>> ((40 : Int32) &&& 0x3f).toInt64)), .second, .val (.long (own_abs (hh + (q4 >>> ((40 : Int32) &&& 0x3f).toInt64)))), .second, .unset, .unset, .unset, .unset, .unset, .unset, .unset, .unset, .unset, .unset, .unset, .unset, .unset, .unset, .unset, .unset, .unset, .unset, .unset, .unset, .unset, .unset, .unset] [])) _
    refine XS.lload X12.here hx rfl (hb hby at_64) rfl ?_
    show Steps p.tables e below (T12.setTop (mkF m 66 #[.val (.long q1), .second, .val (.long q2), .second, .val (.long q3), .second, .val (.long q4), .second, .val (.long q5), .second, .val (.int p6), .val (.long bb), .second, .val (.long dd), .second, .val (.long hh), .second, .val (.long (bb + hh)), .second, .val (.long dl), .second, .val (.long (q4 >>> ((40 : Int32) &&& 0x3f).toInt64)), .second, .val (.long (own_abs (hh + (q4 >>> ((40 : Int32) &&& 0x3f).toInt64)))), .second, .unset, .unset, .unset, .unset, .unset, .unset, .unset, .unset, .unset, .unset, .unset, .unset, .unset, .unset, .unset, .unset, .unset, .unset, .unset, .unset, .unset, .unset, .unset] [(.long q4)])) _
    refine XS.lconst X12.here hx rfl (hb hby at_66) ?_
    show Steps p.tables e below (T12.setTop (mkF m 67 #[.val (.long q1), .second, .val (.long q2), .second, .val (.long q3), .second, .val (.long q4), .second, .val (.long q5), .second, .val (.int p6), .val (.long bb), .second, .val (.long dd), .second, .val (.long hh), .second, .val (.long (bb + hh)), .second, .val (.long dl), .second, .val (.long (q4 >>> ((40 : Int32) &&& 0x3f).toInt64)), .second, .val (.long (own_abs (hh + (q4 >>> ((40 : Int32) &&& 0x3f).toInt64)))), .second, .unset, .unset, .unset, .unset, .unset, .unset, .unset, .unset, .unset, .unset, .unset, .unset, .unset, .unset, .unset, .unset, .unset, .unset, .unset, .unset, .unset, .unset, .unset] [(.long (1 : Int64)), (.long q4)])) _
    refine XS.land X12.here hx rfl (hb hby at_67) rfl ?_
    show Steps p.tables e below (T12.setTop (mkF m 68 #[.val (.long q1), .second, .val (.long q2), .second, .val (.long q3), .second, .val (.long q4), .second, .val (.long q5), .second, .val (.int p6), .val (.long bb), .second, .val (.long dd), .second, .val (.long hh), .second, .val (.long (bb + hh)), .second, .val (.long dl), .second, .val (.long (q4 >>> ((40 : Int32) &&& 0x3f).toInt64)), .second, .val (.long (own_abs (hh + (q4 >>> ((40 : Int32) &&& 0x3f).toInt64)))), .second, .unset, .unset, .unset, .unset, .unset, .unset, .unset, .unset, .unset, .unset, .unset, .unset, .unset, .unset, .unset, .unset, .unset, .unset, .unset, .unset, .unset, .unset, .unset] [(.long (q4 &&& (1 : Int64)))])) _
    refine XS.lstore X12.here hx rfl (hb hby at_68) rfl (l' := #[.val (.long q1), .second, .val (.long q2), .second, .val (.long q3), .second, .val (.long q4), .second, .val (.long q5), .second, .val (.int p6), .val (.long bb), .second, .val (.long dd), .second, .val (.long hh), .second, .val (.long (bb + hh)), .second, .val (.long dl), .second, .val (.long (q4 >>> ((40 : Int32) &&& 0x3f).toInt64)), .second, .val (.long (own_abs (hh + (q4 >>> ((40 : Int32) &&& 0x3f).toInt64)))), .second, .val (.long (q4 &&& (1 : Int64))), .second, .unset, .unset, .unset, .unset, .unset, .unset, .unset, .unset, .unset, .unset, .unset, .unset, .unset, .unset, .unset, .unset, .unset, .unset, .unset, .unset, .unset]) rfl ?_
    show Steps p.tables e below (T12.setTop (mkF m 70 #[.val (.long q1), .second, .val (.long q2), .second, .val (.long q3), .second, .val (.long q4), .second, .val (.long q5), .second, .val (.int p6), .val (.long bb), .second, .val (.long dd), .second, .val (.long hh), .second, .val (.long (bb + hh)), .second, .val (.long dl), .second, .val (.long (q4 >>> ((40 : Int32) &&& 0x3f).toInt64)), .second, .val (.long (own_abs (hh + (q4 >>> ((40 : Int32) &&& 0x3f).toInt64)))), .second, .val (.long (q4 &&& (1 : Int64))), .second, .unset, .unset, .unset, .unset, .unset, .unset, .unset, .unset, .unset, .unset, .unset, .unset, .unset, .unset, .unset, .unset, .unset, .unset, .unset, .unset, .unset] [])) _
    refine XS.lload X12.here hx rfl (hb hby at_70) rfl ?_
    show Steps p.tables e below (T12.setTop (mkF m 72 #[.val (.long q1), .second, .val (.long q2), .second, .val (.long q3), .second, .val (.long q4), .second, .val (.long q5), .second, .val (.int p6), .val (.long bb), .second, .val (.long dd), .second, .val (.long hh), .second, .val (.long (bb + hh)), .second, .val (.long dl), .second, .val (.long (q4 >>> ((40 : Int32) &&& 0x3f).toInt64)), .second, .val (.long (own_abs (hh + (q4 >>> ((40 : Int32) &&& 0x3f).toInt64)))), .second, .val (.long (q4 &&& (1 : Int64))), .second, .unset, .unset, .unset, .unset, .unset, .unset, .unset, .unset, .unset, .unset, .unset, .unset, .unset, .unset, .unset, .unset, .unset, .unset, .unset, .unset, .unset] [(.long (bb + hh))])) _
    refine XS.lload X12.here hx rfl (hb hby at_72) rfl ?_
    show Steps p.tables e below (T12.setTop (mkF m 74 #[.val (.long q1), .second, .val (.long q2), .second, .val (.long q3), .second, .val (.long q4), .second, .val (.long q5), .second, .val (.int p6), .val (.long bb), .second, .val (.long dd), .second, .val (.long hh), .second, .val (.long (bb + hh)), .second, .val (.long dl), .second, .val (.long (q4 >>> ((40 : Int32) &&& 0x3f).toInt64)), .second, .val (.long (own_abs (hh + (q4 >>> ((40 : Int32) &&& 0x3f).toInt64)))), .second, .val (.long (q4 &&& (1 : Int64))), .second, .unset, .unset, .unset, .unset, .unset, .unset, .unset, .unset, .unset, .unset, .unset, .unset, .unset, .unset, .unset, .unset, .unset, .unset, .unset, .unset, .unset] [(.long dl), (.long (bb + hh))])) _
    refine XS.ladd X12.here hx rfl (hb hby at_74) rfl ?_
    show Steps p.tables e below (T12.setTop (mkF m 75 #[.val (.long q1), .second, .val (.long q2), .second, .val (.long q3), .second, .val (.long q4), .second, .val (.long q5), .second, .val (.int p6), .val (.long bb), .second, .val (.long dd), .second, .val (.long hh), .second, .val (.long (bb + hh)), .second, .val (.long dl), .second, .val (.long (q4 >>> ((40 : Int32) &&& 0x3f).toInt64)), .second, .val (.long (own_abs (hh + (q4 >>> ((40 : Int32) &&& 0x3f).toInt64)))), .second, .val (.long (q4 &&& (1 : Int64))), .second, .unset, .unset, .unset, .unset, .unset, .unset, .unset, .unset, .unset, .unset, .unset, .unset, .unset, .unset, .unset, .unset, .unset, .unset, .unset, .unset, .unset] [(.long ((bb + hh) + dl))])) _
    refine XS.lstore X12.here hx rfl (hb hby at_75) rfl (l' := #[.val (.long q1), .second, .val (.long q2), .second, .val (.long q3), .second, .val (.long q4), .second, .val (.long q5), .second, .val (.int p6), .val (.long bb), .second, .val (.long dd), .second, .val (.long hh), .second, .val (.long (bb + hh)), .second, .val (.long dl), .second, .val (.long (q4 >>> ((40 : Int32) &&& 0x3f).toInt64)), .second, .val (.long (own_abs (hh + (q4 >>> ((40 : Int32) &&& 0x3f).toInt64)))), .second, .val (.long (q4 &&& (1 : Int64))), .second, .val (.long ((bb + hh) + dl)), .second, .unset, .unset, .unset, .unset, .unset, .unset, .unset, .unset, .unset, .unset, .unset, .unset, .unset, .unset, .unset, .unset, .unset, .unset, .unset]) rfl ?_
    show Steps p.tables e below (T12.setTop (mkF m 77 #[.val (.long q1), .second, .val (.long q2), .second, .val (.long q3), .second, .val (.long q4), .second, .val (.long q5), .second, .val (.int p6), .val (.long bb), .second, .val (.long dd), .second, .val (.long hh), .second, .val (.long (bb + hh)), .second, .val (.long dl), .second, .val (.long (q4 >>> ((40 : Int32) &&& 0x3f).toInt64)), .second, .val (.long (own_abs (hh + (q4 >>> ((40 : Int32) &&& 0x3f).toInt64)))), .second, .val (.long (q4 &&& (1 : Int64))), .second, .val (.long ((bb + hh) + dl)), .second, .unset, .unset, .unset, .unset, .unset, .unset, .unset, .unset, .unset, .unset, .unset, .unset, .unset, .unset, .unset, .unset, .unset, .unset, .unset] [])) _
    refine XS.lload X12.here hx rfl (hb hby at_77) rfl ?_
    show Steps p.tables e below (T12.setTop (mkF m 79 #[.val (.long q1), .second, .val (.long q2), .second, .val (.long q3), .second, .val (.long q4), .second, .val (.long q5), .second, .val (.int p6), .val (.long bb), .second, .val (.long dd), .second, .val (.long hh), .second, .val (.long (bb + hh)), .second, .val (.long dl), .second, .val (.long (q4 >>> ((40 : Int32) &&& 0x3f).toInt64)), .second, .val (.long (own_abs (hh + (q4 >>> ((40 : Int32) &&& 0x3f).toInt64)))), .second, .val (.long (q4 &&& (1 : Int64))), .second, .val (.long ((bb + hh) + dl)), .second, .unset, .unset, .unset, .unset, .unset, .unset, .unset, .unset, .unset, .unset, .unset, .unset, .unset, .unset, .unset, .unset, .unset, .unset, .unset] [(.long q3)])) _
    refine X12.ldc2Long hx hown (mvT hZ (hw _ (own_w 6 rfl))) (g := (mkF m 79 #[.val (.long q1), .second, .val (.long q2), .second, .val (.long q3), .second, .val (.long q4), .second, .val (.long q5), .second, .val (.int p6), .val (.long bb), .second, .val (.long dd), .second, .val (.long hh), .second, .val (.long (bb + hh)), .second, .val (.long dl), .second, .val (.long (q4 >>> ((40 : Int32) &&& 0x3f).toInt64)), .second, .val (.long (own_abs (hh + (q4 >>> ((40 : Int32) &&& 0x3f).toInt64)))), .second, .val (.long (q4 &&& (1 : Int64))), .second, .val (.long ((bb + hh) + dl)), .second, .unset, .unset, .unset, .unset, .unset, .unset, .unset, .unset, .unset, .unset, .unset, .unset, .unset, .unset, .unset, .unset, .unset, .unset, .unset] [(.long q3)])) rfl (hb hby at_79) _ ?_
    show Steps p.tables e below (T12.setTop (mkF m 82 #[.val (.long q1), .second, .val (.long q2), .second, .val (.long q3), .second, .val (.long q4), .second, .val (.long q5), .second, .val (.int p6), .val (.long bb), .second, .val (.long dd), .second, .val (.long hh), .second, .val (.long (bb + hh)), .second, .val (.long dl), .second, .val (.long (q4 >>> ((40 : Int32) &&& 0x3f).toInt64)), .second, .val (.long (own_abs (hh + (q4 >>> ((40 : Int32) &&& 0x3f).toInt64)))), .second, .val (.long (q4 &&& (1 : Int64))), .second, .val (.long ((bb + hh) + dl)), .second, .unset, .unset, .unset, .unset, .unset, .unset, .unset, .unset, .unset, .unset, .unset, .unset, .unset, .unset, .unset, .unset, .unset, .unset, .unset] [(.long (-1 : Int64)), (.long q3)])) _
    refine XS.lxor X12.here hx rfl (hb hby at_82) rfl ?_
    show Steps p.tables e below (T12.setTop (mkF m 83 #[.val (.long q1), .second, .val (.long q2), .second, .val (.long q3), .second, .val (.long q4), .second, .val (.long q5), .second, .val (.int p6), .val (.long bb), .second, .val (.long dd), .second, .val (.long hh), .second, .val (.long (bb + hh)), .second, .val (.long dl), .second, .val (.long (q4 >>> ((40 : Int32) &&& 0x3f).toInt64)), .second, .val (.long (own_abs (hh + (q4 >>> ((40 : Int32) &&& 0x3f).toInt64)))), .second, .val (.long (q4 &&& (1 : Int64))), .second, .val (.long ((bb + hh) + dl)), .second, .unset, .unset, .unset, .unset, .unset, .unset, .unset, .unset, .unset, .unset, .unset, .unset, .unset, .unset, .unset, .unset, .unset, .unset, .unset] [(.long (q3 ^^^ (-1 : Int64)))])) _
    refine XS.lstore X12.here hx rfl (hb hby at_83) rfl (l' := #[.val (.long q1), .second, .val (.long q2), .second, .val (.long q3), .second, .val (.long q4), .second, .val (.long q5), .second, .val (.int p6), .val (.long bb), .second, .val (.long dd), .second, .val (.long hh), .second, .val (.long (bb + hh)), .second, .val (.long dl), .second, .val (.long (q4 >>> ((40 : Int32) &&& 0x3f).toInt64)), .second, .val (.long (own_abs (hh + (q4 >>> ((40 : Int32) &&& 0x3f).toInt64)))), .second, .val (.long (q4 &&& (1 : Int64))), .second, .val (.long ((bb + hh) + dl)), .second, .val (.long (q3 ^^^ (-1 : Int64))), .second, .unset, .unset, .unset, .unset, .unset, .unset, .unset, .unset, .unset, .unset, .unset, .unset, .unset, .unset, .unset, .unset, .unset]) rfl ?_
    show Steps p.tables e below (T12.setTop (mkF m 85 #[.val (.long q1), .second, .val (.long q2), .second, .val (.long q3), .second, .val (.long q4), .second, .val (.long q5), .second, .val (.int p6), .val (.long bb), .second, .val (.long dd), .second, .val (.long hh), .second, .val (.long (bb + hh)), .second, .val (.long dl), .second, .val (.long (q4 >>> ((40 : Int32) &&& 0x3f).toInt64)), .second, .val (.long (own_abs (hh + (q4 >>> ((40 : Int32) &&& 0x3f).toInt64)))), .second, .val (.long (q4 &&& (1 : Int64))), .second, .val (.long ((bb + hh) + dl)), .second, .val (.long (q3 ^^^ (-1 : Int64))), .second, .unset, .unset, .unset, .unset, .unset, .unset, .unset, .unset, .unset, .unset, .unset, .unset, .unset, .unset, .unset, .unset, .unset] [])) _
    exact kt
  obtain ⟨ss, h2, ee, c2, Tj14, lj14, Xj14, Nj14, ej14, pj15, pj16, prej14⟩ : ∃ (ss : Int64) (h2 : Int64) (ee : Int64) (c2 : Int64) (Tj14 : State) (lj14 : List Loc), Stand p l e room_1 s m #[(.long q1), (.long q2), (.long q3), (.long q4), (.long q5), (.int p6)] below meth c Tj14 lj14 0 0 ∧ Fr n0 lj14 ∧ Tj14.heap = h0 ∧ (0 ≤ h2.toInt ∧ h2.toInt < 2305843009213693952) ∧ (0 ≤ ee.toInt ∧ ee.toInt < 2) ∧ own_Go p e below S0 (Tj14.setTop (mkF m 85 #[.val (.long q1), .second, .val (.long q2), .second, .val (.long q3), .second, .val (.long q4), .second, .val (.long q5), .second, .val (.int p6), .val (.long bb), .second, .val (.long dd), .second, .val (.long hh), .second, .val (.long (bb + hh)), .second, .val (.long dl), .second, .val (.long ss), .second, .val (.long h2), .second, .val (.long ee), .second, .val (.long ((bb + hh) + dl)), .second, .val (.long c2), .second, .unset, .unset, .unset, .unset, .unset, .unset, .unset, .unset, .unset, .unset, .unset, .unset, .unset, .unset, .unset, .unset, .unset] [])) := by
    exact ⟨(q4 >>> ((40 : Int32) &&& 0x3f).toInt64), (own_abs (hh + (q4 >>> ((40 : Int32) &&& 0x3f).toInt64))), (q4 &&& (1 : Int64)), (q3 ^^^ (-1 : Int64)), T12, _, (Stand.mono X12 (by decide) (by decide)), N12, eq12, (own_ab _ _ phh), (own_em _), pre13⟩
  obtain ⟨T17, h17, X17, e17, E17, A17, D17, -, st17⟩ := newO Xj14 hx hZ hown (hw _ (own_w 7 rfl)) (hw _ (own_w 8 rfl)) (hw _ (own_w 9 rfl)) ej14 (g := (mkF m 85 #[.val (.long q1), .second, .val (.long q2), .second, .val (.long q3), .second, .val (.long q4), .second, .val (.long q5), .second, .val (.int p6), .val (.long bb), .second, .val (.long dd), .second, .val (.long hh), .second, .val (.long (bb + hh)), .second, .val (.long dl), .second, .val (.long ss), .second, .val (.long h2), .second, .val (.long ee), .second, .val (.long ((bb + hh) + dl)), .second, .val (.long c2), .second, .unset, .unset, .unset, .unset, .unset, .unset, .unset, .unset, .unset, .unset, .unset, .unset, .unset, .unset, .unset, .unset, .unset] [])) rfl (hb hby at_85) (by decide) (by decide)
  obtain ⟨b17, g17⟩ : ∃ z, z = h0.size := ⟨_, rfl⟩
  rw [← g17] at A17 D17 st17
  have ge18 : n0 ≤ b17 := Nat.le_trans Z0 (Nat.le_of_eq g17.symm)
  have zs19 : n0 ≤ h17.size := Nat.le_trans Z0 E17.1
  have fd20 : Fld Z h17 b17 "com/example/backplane/backplane/ClusterClock" "sample" "Lcom/example/backplane/backplane/ClusterClock$Sample;" .null := D17 (Or.inl (hw _ (own_w 41 rfl))) (ty := (.object "com/example/backplane/backplane/ClusterClock$Sample")) (by decide)
  have pre21 : own_Go p e below S0 (T17.setTop (mkF m 89 #[.val (.long q1), .second, .val (.long q2), .second, .val (.long q3), .second, .val (.long q4), .second, .val (.long q5), .second, .val (.int p6), .val (.long bb), .second, .val (.long dd), .second, .val (.long hh), .second, .val (.long (bb + hh)), .second, .val (.long dl), .second, .val (.long ss), .second, .val (.long h2), .second, .val (.long ee), .second, .val (.long ((bb + hh) + dl)), .second, .val (.long c2), .second, .unset, .unset, .unset, .unset, .unset, .unset, .unset, .unset, .unset, .unset, .unset, .unset, .unset, .unset, .unset, .unset, .unset] [(.ref b17), (.ref b17)])) := by
    intro t kt
    refine prej14 t ?_
    refine st17 _ ?_
    show Steps p.tables e below (T17.setTop (mkF m 88 #[.val (.long q1), .second, .val (.long q2), .second, .val (.long q3), .second, .val (.long q4), .second, .val (.long q5), .second, .val (.int p6), .val (.long bb), .second, .val (.long dd), .second, .val (.long hh), .second, .val (.long (bb + hh)), .second, .val (.long dl), .second, .val (.long ss), .second, .val (.long h2), .second, .val (.long ee), .second, .val (.long ((bb + hh) + dl)), .second, .val (.long c2), .second, .unset, .unset, .unset, .unset, .unset, .unset, .unset, .unset, .unset, .unset, .unset, .unset, .unset, .unset, .unset, .unset, .unset] [(.ref b17)])) _
    refine XS.dup X17.here hx rfl (hb hby at_88) rfl rfl ?_
    show Steps p.tables e below (T17.setTop (mkF m 89 #[.val (.long q1), .second, .val (.long q2), .second, .val (.long q3), .second, .val (.long q4), .second, .val (.long q5), .second, .val (.int p6), .val (.long bb), .second, .val (.long dd), .second, .val (.long hh), .second, .val (.long (bb + hh)), .second, .val (.long dl), .second, .val (.long ss), .second, .val (.long h2), .second, .val (.long ee), .second, .val (.long ((bb + hh) + dl)), .second, .val (.long c2), .second, .unset, .unset, .unset, .unset, .unset, .unset, .unset, .unset, .unset, .unset, .unset, .unset, .unset, .unset, .unset, .unset, .unset] [(.ref b17), (.ref b17)])) _
    exact kt
  obtain ⟨_, _, ⟨T22, L22, k22, n22⟩, -, X22, ⟨Lc22, hQ22, l22, y22, z22⟩, st22⟩ := X17.specialBack hx (y := (⟨"com/example/backplane/backplane/ClusterClock", "<init>", "()V"⟩ : MethodName)) rfl hown (mvT hZ (hw _ (own_w 10 rfl))) (mvT hZ (hw _ (own_w 11 rfl))) (mvT hZ (hw _ (own_w 12 rfl))) (by decide) (backOf (W := 1) (rm2 l Z a0 hw [] b17 h17 n0 zs19 ) hZ (hw _ (own_w 12 rfl)) (hw _ (own_w 9 rfl)) (by decide) (by decide)) (g := (mkF m 89 #[.val (.long q1), .second, .val (.long q2), .second, .val (.long q3), .second, .val (.long q4), .second, .val (.long q5), .second, .val (.int p6), .val (.long bb), .second, .val (.long dd), .second, .val (.long hh), .second, .val (.long (bb + hh)), .second, .val (.long dl), .second, .val (.long ss), .second, .val (.long h2), .second, .val (.long ee), .second, .val (.long ((bb + hh) + dl)), .second, .val (.long c2), .second, .unset, .unset, .unset, .unset, .unset, .unset, .unset, .unset, .unset, .unset, .unset, .unset, .unset, .unset, .unset, .unset, .unset] [(.ref b17), (.ref b17)])) rfl (by rw [hml]; rfl) (Steps.refl _) (a := b17) (argsL := []) (rest := [(.ref b17)]) (lenOf pd_0 rfl) rfl (by show 2 * 0 + _ ≤ _; exact Nat.le_of_eq rfl) (hb hby at_89) (fun _ _ => ⟨rfl, e17, (by decide : 1 + 0 ≤ _), (by decide : 1 + 0 ≤ _)⟩)
  dsimp only [Pt.U, Pt.locs, Pt.cells, Pt.slots] at X22 l22 y22 z22 st22 hQ22
  subst l22 y22 z22
  obtain ⟨rfl, Nq22, eq22⟩ := hQ22
  have N22 := Fr.app Nj14 Nq22
  have pre23 : own_Go p e below S0 (T22.setTop (mkF m 105 #[.val (.long q1), .second, .val (.long q2), .second, .val (.long q3), .second, .val (.long q4), .second, .val (.long q5), .second, .val (.int p6), .val (.long bb), .second, .val (.long dd), .second, .val (.long hh), .second, .val (.long (bb + hh)), .second, .val (.long dl), .second, .val (.long ss), .second, .val (.long h2), .second, .val (.long ee), .second, .val (.long ((bb + hh) + dl)), .second, .val (.long c2), .second, .val (.ref b17), .unset, .unset, .unset, .unset, .unset, .unset, .unset, .unset, .unset, .unset, .unset, .unset, .unset, .unset, .unset, .unset] [(.long (bb + dd)), (.long q3), (.long bb), (.ref b17)])) := by
    intro t kt
    refine pre21 t ?_
    refine st22.trans ?_
    show Steps p.tables e below (T22.setTop (mkF m 92 #[.val (.long q1), .second, .val (.long q2), .second, .val (.long q3), .second, .val (.long q4), .second, .val (.long q5), .second, .val (.int p6), .val (.long bb), .second, .val (.long dd), .second, .val (.long hh), .second, .val (.long (bb + hh)), .second, .val (.long dl), .second, .val (.long ss), .second, .val (.long h2), .second, .val (.long ee), .second, .val (.long ((bb + hh) + dl)), .second, .val (.long c2), .second, .unset, .unset, .unset, .unset, .unset, .unset, .unset, .unset, .unset, .unset, .unset, .unset, .unset, .unset, .unset, .unset, .unset] [(.ref b17)])) _
    refine XS.astore X22.here hx rfl (hb hby at_92) rfl rfl (l' := #[.val (.long q1), .second, .val (.long q2), .second, .val (.long q3), .second, .val (.long q4), .second, .val (.long q5), .second, .val (.int p6), .val (.long bb), .second, .val (.long dd), .second, .val (.long hh), .second, .val (.long (bb + hh)), .second, .val (.long dl), .second, .val (.long ss), .second, .val (.long h2), .second, .val (.long ee), .second, .val (.long ((bb + hh) + dl)), .second, .val (.long c2), .second, .val (.ref b17), .unset, .unset, .unset, .unset, .unset, .unset, .unset, .unset, .unset, .unset, .unset, .unset, .unset, .unset, .unset, .unset]) rfl ?_
    show Steps p.tables e below (T22.setTop (mkF m 94 #[.val (.long q1), .second, .val (.long q2), .second, .val (.long q3), .second, .val (.long q4), .second, .val (.long q5), .second, .val (.int p6), .val (.long bb), .second, .val (.long dd), .second, .val (.long hh), .second, .val (.long (bb + hh)), .second, .val (.long dl), .second, .val (.long ss), .second, .val (.long h2), .second, .val (.long ee), .second, .val (.long ((bb + hh) + dl)), .second, .val (.long c2), .second, .val (.ref b17), .unset, .unset, .unset, .unset, .unset, .unset, .unset, .unset, .unset, .unset, .unset, .unset, .unset, .unset, .unset, .unset] [])) _
    refine XS.aload X22.here hx rfl (hb hby at_94) rfl rfl ?_
    show Steps p.tables e below (T22.setTop (mkF m 96 #[.val (.long q1), .second, .val (.long q2), .second, .val (.long q3), .second, .val (.long q4), .second, .val (.long q5), .second, .val (.int p6), .val (.long bb), .second, .val (.long dd), .second, .val (.long hh), .second, .val (.long (bb + hh)), .second, .val (.long dl), .second, .val (.long ss), .second, .val (.long h2), .second, .val (.long ee), .second, .val (.long ((bb + hh) + dl)), .second, .val (.long c2), .second, .val (.ref b17), .unset, .unset, .unset, .unset, .unset, .unset, .unset, .unset, .unset, .unset, .unset, .unset, .unset, .unset, .unset, .unset] [(.ref b17)])) _
    refine XS.lload X22.here hx rfl (hb hby at_96) rfl ?_
    show Steps p.tables e below (T22.setTop (mkF m 98 #[.val (.long q1), .second, .val (.long q2), .second, .val (.long q3), .second, .val (.long q4), .second, .val (.long q5), .second, .val (.int p6), .val (.long bb), .second, .val (.long dd), .second, .val (.long hh), .second, .val (.long (bb + hh)), .second, .val (.long dl), .second, .val (.long ss), .second, .val (.long h2), .second, .val (.long ee), .second, .val (.long ((bb + hh) + dl)), .second, .val (.long c2), .second, .val (.ref b17), .unset, .unset, .unset, .unset, .unset, .unset, .unset, .unset, .unset, .unset, .unset, .unset, .unset, .unset, .unset, .unset] [(.long bb), (.ref b17)])) _
    refine XS.lload X22.here hx rfl (hb hby at_98) rfl ?_
    show Steps p.tables e below (T22.setTop (mkF m 100 #[.val (.long q1), .second, .val (.long q2), .second, .val (.long q3), .second, .val (.long q4), .second, .val (.long q5), .second, .val (.int p6), .val (.long bb), .second, .val (.long dd), .second, .val (.long hh), .second, .val (.long (bb + hh)), .second, .val (.long dl), .second, .val (.long ss), .second, .val (.long h2), .second, .val (.long ee), .second, .val (.long ((bb + hh) + dl)), .second, .val (.long c2), .second, .val (.ref b17), .unset, .unset, .unset, .unset, .unset, .unset, .unset, .unset, .unset, .unset, .unset, .unset, .unset, .unset, .unset, .unset] [(.long q3), (.long bb), (.ref b17)])) _
    refine XS.lload X22.here hx rfl (hb hby at_100) rfl ?_
    show Steps p.tables e below (T22.setTop (mkF m 102 #[.val (.long q1), .second, .val (.long q2), .second, .val (.long q3), .second, .val (.long q4), .second, .val (.long q5), .second, .val (.int p6), .val (.long bb), .second, .val (.long dd), .second, .val (.long hh), .second, .val (.long (bb + hh)), .second, .val (.long dl), .second, .val (.long ss), .second, .val (.long h2), .second, .val (.long ee), .second, .val (.long ((bb + hh) + dl)), .second, .val (.long c2), .second, .val (.ref b17), .unset, .unset, .unset, .unset, .unset, .unset, .unset, .unset, .unset, .unset, .unset, .unset, .unset, .unset, .unset, .unset] [(.long bb), (.long q3), (.long bb), (.ref b17)])) _
    refine XS.lload X22.here hx rfl (hb hby at_102) rfl ?_
    show Steps p.tables e below (T22.setTop (mkF m 104 #[.val (.long q1), .second, .val (.long q2), .second, .val (.long q3), .second, .val (.long q4), .second, .val (.long q5), .second, .val (.int p6), .val (.long bb), .second, .val (.long dd), .second, .val (.long hh), .second, .val (.long (bb + hh)), .second, .val (.long dl), .second, .val (.long ss), .second, .val (.long h2), .second, .val (.long ee), .second, .val (.long ((bb + hh) + dl)), .second, .val (.long c2), .second, .val (.ref b17), .unset, .unset, .unset, .unset, .unset, .unset, .unset, .unset, .unset, .unset, .unset, .unset, .unset, .unset, .unset, .unset] [(.long dd), (.long bb), (.long q3), (.long bb), (.ref b17)])) _
    refine XS.ladd X22.here hx rfl (hb hby at_104) rfl ?_
    show Steps p.tables e below (T22.setTop (mkF m 105 #[.val (.long q1), .second, .val (.long q2), .second, .val (.long q3), .second, .val (.long q4), .second, .val (.long q5), .second, .val (.int p6), .val (.long bb), .second, .val (.long dd), .second, .val (.long hh), .second, .val (.long (bb + hh)), .second, .val (.long dl), .second, .val (.long ss), .second, .val (.long h2), .second, .val (.long ee), .second, .val (.long ((bb + hh) + dl)), .second, .val (.long c2), .second, .val (.ref b17), .unset, .unset, .unset, .unset, .unset, .unset, .unset, .unset, .unset, .unset, .unset, .unset, .unset, .unset, .unset, .unset] [(.long (bb + dd)), (.long q3), (.long bb), (.ref b17)])) _
    exact kt
  obtain ⟨cq24, kq24, qa24, qb24, qc24⟩ := isOf hZ eq22 A17
  obtain ⟨_, _, ⟨T24, L24, k24, n24⟩, -, X24, ⟨Lc24, hQ24, l24, y24, z24⟩, st24⟩ := X22.virtualBack hx (y := (⟨"com/example/backplane/backplane/ClusterClock", "sample", "(JJJ)V"⟩ : MethodName)) (z := (⟨"com/example/backplane/backplane/ClusterClock", "sample", "(JJJ)V"⟩ : MethodName)) hown (mvT hZ (hw _ (own_w 16 rfl))) (mvT hZ (hw _ (own_w 17 rfl))) (notFace_of_selects (args := #[]) (mvT hZ (hw _ (own_w 19 rfl)))) (mvT hZ (hw _ (own_w 19 rfl))) (mvT hZ (hw _ (own_w 18 rfl))) (by decide) (backOf (W := 0) (rmsm1 l Z a0 hw [] b17 bb q3 (bb + dd) h17 n0 zs19 A17 ge18 fd20) hZ (hw _ (own_w 20 rfl)) (hw _ (own_w 9 rfl)) (by decide) (by decide)) qa24 qc24 (g := (mkF m 105 #[.val (.long q1), .second, .val (.long q2), .second, .val (.long q3), .second, .val (.long q4), .second, .val (.long q5), .second, .val (.int p6), .val (.long bb), .second, .val (.long dd), .second, .val (.long hh), .second, .val (.long (bb + hh)), .second, .val (.long dl), .second, .val (.long ss), .second, .val (.long h2), .second, .val (.long ee), .second, .val (.long ((bb + hh) + dl)), .second, .val (.long c2), .second, .val (.ref b17), .unset, .unset, .unset, .unset, .unset, .unset, .unset, .unset, .unset, .unset, .unset, .unset, .unset, .unset, .unset, .unset] [(.long (bb + dd)), (.long q3), (.long bb), (.ref b17)])) rfl (by rw [hml]; rfl) (Steps.refl _) (argsL := [(.long bb), (.long q3), (.long (bb + dd))]) (rest := []) (lenOf pd_1 rfl) rfl (by show 2 * 0 + _ ≤ _; exact Nat.le_of_eq rfl) (hb hby at_105) (fun _ _ => ⟨rfl, eq22, (by decide : 1 + 1 ≤ _), (by decide : 1 + 3 ≤ _)⟩)
  dsimp only [Pt.U, Pt.locs, Pt.cells, Pt.slots] at X24 l24 y24 z24 st24 hQ24
  subst l24 y24 z24
  obtain ⟨b25, rfl, Nq24, K24, g26, g27, g28, g29, g30, g31, g32⟩ := hQ24
  have N24 := Fr.app N22 Nq24
  have ne33 : b17 ≠ b25 := Nat.ne_of_lt (Nat.lt_of_lt_of_le A17.lt g26)
  have ge34 : n0 ≤ b25 := Nat.le_trans zs19 g26
  have zs35 : n0 ≤ T24.heap.size := Nat.le_trans zs19 K24.1
  have pre36 : own_Go p e below S0 (T24.setTop (mkF m 116 #[.val (.long q1), .second, .val (.long q2), .second, .val (.long q3), .second, .val (.long q4), .second, .val (.long q5), .second, .val (.int p6), .val (.long bb), .second, .val (.long dd), .second, .val (.long hh), .second, .val (.long (bb + hh)), .second, .val (.long dl), .second, .val (.long ss), .second, .val (.long h2), .second, .val (.long ee), .second, .val (.long ((bb + hh) + dl)), .second, .val (.long c2), .second, .val (.ref b17), .unset, .unset, .unset, .unset, .unset, .unset, .unset, .unset, .unset, .unset, .unset, .unset, .unset, .unset, .unset, .unset] [(.long ((bb + hh) + (p6.toInt64))), (.ref b17)])) := by
    intro t kt
    refine pre23 t ?_
    refine st24.trans ?_
    show Steps p.tables e below (T24.setTop (mkF m 108 #[.val (.long q1), .second, .val (.long q2), .second, .val (.long q3), .second, .val (.long q4), .second, .val (.long q5), .second, .val (.int p6), .val (.long bb), .second, .val (.long dd), .second, .val (.long hh), .second, .val (.long (bb + hh)), .second, .val (.long dl), .second, .val (.long ss), .second, .val (.long h2), .second, .val (.long ee), .second, .val (.long ((bb + hh) + dl)), .second, .val (.long c2), .second, .val (.ref b17), .unset, .unset, .unset, .unset, .unset, .unset, .unset, .unset, .unset, .unset, .unset, .unset, .unset, .unset, .unset, .unset] [])) _
    refine XS.aload X24.here hx rfl (hb hby at_108) rfl rfl ?_
    show Steps p.tables e below (T24.setTop (mkF m 110 #[.val (.long q1), .second, .val (.long q2), .second, .val (.long q3), .second, .val (.long q4), .second, .val (.long q5), .second, .val (.int p6), .val (.long bb), .second, .val (.long dd), .second, .val (.long hh), .second, .val (.long (bb + hh)), .second, .val (.long dl), .second, .val (.long ss), .second, .val (.long h2), .second, .val (.long ee), .second, .val (.long ((bb + hh) + dl)), .second, .val (.long c2), .second, .val (.ref b17), .unset, .unset, .unset, .unset, .unset, .unset, .unset, .unset, .unset, .unset, .unset, .unset, .unset, .unset, .unset, .unset] [(.ref b17)])) _
    refine XS.lload X24.here hx rfl (hb hby at_110) rfl ?_
    show Steps p.tables e below (T24.setTop (mkF m 112 #[.val (.long q1), .second, .val (.long q2), .second, .val (.long q3), .second, .val (.long q4), .second, .val (.long q5), .second, .val (.int p6), .val (.long bb), .second, .val (.long dd), .second, .val (.long hh), .second, .val (.long (bb + hh)), .second, .val (.long dl), .second, .val (.long ss), .second, .val (.long h2), .second, .val (.long ee), .second, .val (.long ((bb + hh) + dl)), .second, .val (.long c2), .second, .val (.ref b17), .unset, .unset, .unset, .unset, .unset, .unset, .unset, .unset, .unset, .unset, .unset, .unset, .unset, .unset, .unset, .unset] [(.long (bb + hh)), (.ref b17)])) _
    refine XS.iload X24.here hx rfl (hb hby at_112) rfl ?_
    show Steps p.tables e below (T24.setTop (mkF m 114 #[.val (.long q1), .second, .val (.long q2), .second, .val (.long q3), .second, .val (.long q4), .second, .val (.long q5), .second, .val (.int p6), .val (.long bb), .second, .val (.long dd), .second, .val (.long hh), .second, .val (.long (bb + hh)), .second, .val (.long dl), .second, .val (.long ss), .second, .val (.long h2), .second, .val (.long ee), .second, .val (.long ((bb + hh) + dl)), .second, .val (.long c2), .second, .val (.ref b17), .unset, .unset, .unset, .unset, .unset, .unset, .unset, .unset, .unset, .unset, .unset, .unset, .unset, .unset, .unset, .unset] [(.int p6), (.long (bb + hh)), (.ref b17)])) _
    refine XS.i2l X24.here hx rfl (hb hby at_114) rfl ?_
    show Steps p.tables e below (T24.setTop (mkF m 115 #[.val (.long q1), .second, .val (.long q2), .second, .val (.long q3), .second, .val (.long q4), .second, .val (.long q5), .second, .val (.int p6), .val (.long bb), .second, .val (.long dd), .second, .val (.long hh), .second, .val (.long (bb + hh)), .second, .val (.long dl), .second, .val (.long ss), .second, .val (.long h2), .second, .val (.long ee), .second, .val (.long ((bb + hh) + dl)), .second, .val (.long c2), .second, .val (.ref b17), .unset, .unset, .unset, .unset, .unset, .unset, .unset, .unset, .unset, .unset, .unset, .unset, .unset, .unset, .unset, .unset] [(.long (p6.toInt64)), (.long (bb + hh)), (.ref b17)])) _
    refine XS.ladd X24.here hx rfl (hb hby at_115) rfl ?_
    show Steps p.tables e below (T24.setTop (mkF m 116 #[.val (.long q1), .second, .val (.long q2), .second, .val (.long q3), .second, .val (.long q4), .second, .val (.long q5), .second, .val (.int p6), .val (.long bb), .second, .val (.long dd), .second, .val (.long hh), .second, .val (.long (bb + hh)), .second, .val (.long dl), .second, .val (.long ss), .second, .val (.long h2), .second, .val (.long ee), .second, .val (.long ((bb + hh) + dl)), .second, .val (.long c2), .second, .val (.ref b17), .unset, .unset, .unset, .unset, .unset, .unset, .unset, .unset, .unset, .unset, .unset, .unset, .unset, .unset, .unset, .unset] [(.long ((bb + hh) + (p6.toInt64))), (.ref b17)])) _
    exact kt
  obtain ⟨cq37, kq37, qa37, qb37, qc37⟩ := isOf hZ rfl g27
  obtain ⟨_, _, ⟨T37, L37, k37, n37⟩, -, X37, ⟨Lc37, hQ37, l37, y37, z37⟩, st37⟩ := X24.virtualBack hx (y := (⟨"com/example/backplane/backplane/ClusterClock", "at", "(J)J"⟩ : MethodName)) (z := (⟨"com/example/backplane/backplane/ClusterClock", "at", "(J)J"⟩ : MethodName)) hown (mvT hZ (hw _ (own_w 42 rfl))) (mvT hZ (hw _ (own_w 43 rfl))) (notFace_of_selects (args := #[]) (mvT hZ (hw _ (own_w 45 rfl)))) (mvT hZ (hw _ (own_w 45 rfl))) (mvT hZ (hw _ (own_w 44 rfl))) (by decide) (backOf (W := 0) (rm7 l Z a0 hw [] b17 ((bb + hh) + (p6.toInt64)) b25 q3 (bb + (((bb + dd) - bb) / (2 : Int64))) T24.heap n0 zs35 g28 g29 g30 g31) hZ (hw _ (own_w 46 rfl)) (hw _ (own_w 9 rfl)) (by decide) (by decide)) qa37 qc37 (g := (mkF m 116 #[.val (.long q1), .second, .val (.long q2), .second, .val (.long q3), .second, .val (.long q4), .second, .val (.long q5), .second, .val (.int p6), .val (.long bb), .second, .val (.long dd), .second, .val (.long hh), .second, .val (.long (bb + hh)), .second, .val (.long dl), .second, .val (.long ss), .second, .val (.long h2), .second, .val (.long ee), .second, .val (.long ((bb + hh) + dl)), .second, .val (.long c2), .second, .val (.ref b17), .unset, .unset, .unset, .unset, .unset, .unset, .unset, .unset, .unset, .unset, .unset, .unset, .unset, .unset, .unset, .unset] [(.long ((bb + hh) + (p6.toInt64))), (.ref b17)])) rfl (by rw [hml]; rfl) (Steps.refl _) (argsL := [(.long ((bb + hh) + (p6.toInt64)))]) (rest := []) (lenOf pd_3 rfl) rfl (by show 2 * 0 + _ ≤ _; exact Nat.le_of_eq rfl) (hb hby at_116) (fun _ _ => ⟨rfl, rfl, (by decide : 2 + 0 ≤ _), (by decide : 4 + 0 ≤ _)⟩)
  dsimp only [Pt.U, Pt.locs, Pt.cells, Pt.slots] at X37 l37 y37 z37 st37 hQ37
  subst l37 y37 z37
  obtain ⟨rfl, Nq37, eq37⟩ := hQ37
  have N37 := Fr.app N24 Nq37
  have ea38 : (q3 + (own_fd (((bb + hh) + (p6.toInt64)) - (bb + (((bb + dd) - bb) / (2 : Int64)))) (1000000 : Int64))) = (q3 + (own_fd (p6.toInt64) (1000000 : Int64))) := by rw [own_d1 bb dd hh 0 pj7 pj8 pj9, own_mo]
  have pre39 : own_Go p e below S0 (T37.setTop (mkF m 119 #[.val (.long q1), .second, .val (.long q2), .second, .val (.long q3), .second, .val (.long q4), .second, .val (.long q5), .second, .val (.int p6), .val (.long bb), .second, .val (.long dd), .second, .val (.long hh), .second, .val (.long (bb + hh)), .second, .val (.long dl), .second, .val (.long ss), .second, .val (.long h2), .second, .val (.long ee), .second, .val (.long ((bb + hh) + dl)), .second, .val (.long c2), .second, .val (.ref b17), .unset, .unset, .unset, .unset, .unset, .unset, .unset, .unset, .unset, .unset, .unset, .unset, .unset, .unset, .unset, .unset] [(.long (q3 + (own_fd (((bb + hh) + (p6.toInt64)) - (bb + (((bb + dd) - bb) / (2 : Int64)))) (1000000 : Int64))))])) := by
    intro t kt
    refine pre36 t ?_
    refine st37.trans ?_
    show Steps p.tables e below (T37.setTop (mkF m 119 #[.val (.long q1), .second, .val (.long q2), .second, .val (.long q3), .second, .val (.long q4), .second, .val (.long q5), .second, .val (.int p6), .val (.long bb), .second, .val (.long dd), .second, .val (.long hh), .second, .val (.long (bb + hh)), .second, .val (.long dl), .second, .val (.long ss), .second, .val (.long h2), .second, .val (.long ee), .second, .val (.long ((bb + hh) + dl)), .second, .val (.long c2), .second, .val (.ref b17), .unset, .unset, .unset, .unset, .unset, .unset, .unset, .unset, .unset, .unset, .unset, .unset, .unset, .unset, .unset, .unset] [(.long (q3 + (own_fd (((bb + hh) + (p6.toInt64)) - (bb + (((bb + dd) - bb) / (2 : Int64)))) (1000000 : Int64))))])) _
    exact kt
  have pre40 : own_Go p e below S0 (T37.setTop (mkF m 119 #[.val (.long q1), .second, .val (.long q2), .second, .val (.long q3), .second, .val (.long q4), .second, .val (.long q5), .second, .val (.int p6), .val (.long bb), .second, .val (.long dd), .second, .val (.long hh), .second, .val (.long (bb + hh)), .second, .val (.long dl), .second, .val (.long ss), .second, .val (.long h2), .second, .val (.long ee), .second, .val (.long ((bb + hh) + dl)), .second, .val (.long c2), .second, .val (.ref b17), .unset, .unset, .unset, .unset, .unset, .unset, .unset, .unset, .unset, .unset, .unset, .unset, .unset, .unset, .unset, .unset] [(.long (q3 + (own_fd (p6.toInt64) (1000000 : Int64))))])) := by
    intro t kt
    refine pre39 t ?_
    rw [ea38]
    exact kt
  have pre41 : own_Go p e below S0 (T37.setTop (mkF m 138 #[.val (.long q1), .second, .val (.long q2), .second, .val (.long q3), .second, .val (.long q4), .second, .val (.long q5), .second, .val (.int p6), .val (.long bb), .second, .val (.long dd), .second, .val (.long hh), .second, .val (.long (bb + hh)), .second, .val (.long dl), .second, .val (.long ss), .second, .val (.long h2), .second, .val (.long ee), .second, .val (.long ((bb + hh) + dl)), .second, .val (.long c2), .second, .val (.ref b17), .val (.long (q3 + (own_fd (p6.toInt64) (1000000 : Int64)))), .second, .unset, .unset, .unset, .unset, .unset, .unset, .unset, .unset, .unset, .unset, .unset, .unset, .unset, .unset] [(.long ((((bb + hh) + dl) + h2) + ee)), (.long c2), (.long (((bb + hh) + dl) - h2)), (.ref b17)])) := by
    intro t kt
    refine pre40 t ?_
    refine XS.lstore X37.here hx rfl (hb hby at_119) rfl (l' := #[.val (.long q1), .second, .val (.long q2), .second, .val (.long q3), .second, .val (.long q4), .second, .val (.long q5), .second, .val (.int p6), .val (.long bb), .second, .val (.long dd), .second, .val (.long hh), .second, .val (.long (bb + hh)), .second, .val (.long dl), .second, .val (.long ss), .second, .val (.long h2), .second, .val (.long ee), .second, .val (.long ((bb + hh) + dl)), .second, .val (.long c2), .second, .val (.ref b17), .val (.long (q3 + (own_fd (p6.toInt64) (1000000 : Int64)))), .second, .unset, .unset, .unset, .unset, .unset, .unset, .unset, .unset, .unset, .unset, .unset, .unset, .unset, .unset]) rfl ?_
    show Steps p.tables e below (T37.setTop (mkF m 121 #[.val (.long q1), .second, .val (.long q2), .second, .val (.long q3), .second, .val (.long q4), .second, .val (.long q5), .second, .val (.int p6), .val (.long bb), .second, .val (.long dd), .second, .val (.long hh), .second, .val (.long (bb + hh)), .second, .val (.long dl), .second, .val (.long ss), .second, .val (.long h2), .second, .val (.long ee), .second, .val (.long ((bb + hh) + dl)), .second, .val (.long c2), .second, .val (.ref b17), .val (.long (q3 + (own_fd (p6.toInt64) (1000000 : Int64)))), .second, .unset, .unset, .unset, .unset, .unset, .unset, .unset, .unset, .unset, .unset, .unset, .unset, .unset, .unset] [])) _
    refine XS.aload X37.here hx rfl (hb hby at_121) rfl rfl ?_
    show Steps p.tables e below (T37.setTop (mkF m 123 #[.val (.long q1), .second, .val (.long q2), .second, .val (.long q3), .second, .val (.long q4), .second, .val (.long q5), .second, .val (.int p6), .val (.long bb), .second, .val (.long dd), .second, .val (.long hh), .second, .val (.long (bb + hh)), .second, .val (.long dl), .second, .val (.long ss), .second, .val (.long h2), .second, .val (.long ee), .second, .val (.long ((bb + hh) + dl)), .second, .val (.long c2), .second, .val (.ref b17), .val (.long (q3 + (own_fd (p6.toInt64) (1000000 : Int64)))), .second, .unset, .unset, .unset, .unset, .unset, .unset, .unset, .unset, .unset, .unset, .unset, .unset, .unset, .unset] [(.ref b17)])) _
    refine XS.lload X37.here hx rfl (hb hby at_123) rfl ?_
    show Steps p.tables e below (T37.setTop (mkF m 125 #[.val (.long q1), .second, .val (.long q2), .second, .val (.long q3), .second, .val (.long q4), .second, .val (.long q5), .second, .val (.int p6), .val (.long bb), .second, .val (.long dd), .second, .val (.long hh), .second, .val (.long (bb + hh)), .second, .val (.long dl), .second, .val (.long ss), .second, .val (.long h2), .second, .val (.long ee), .second, .val (.long ((bb + hh) + dl)), .second, .val (.long c2), .second, .val (.ref b17), .val (.long (q3 + (own_fd (p6.toInt64) (1000000 : Int64)))), .second, .unset, .unset, .unset, .unset, .unset, .unset, .unset, .unset, .unset, .unset, .unset, .unset, .unset, .unset] [(.long ((bb + hh) + dl)), (.ref b17)])) _
    refine XS.lload X37.here hx rfl (hb hby at_125) rfl ?_
    show Steps p.tables e below (T37.setTop (mkF m 127 #[.val (.long q1), .second, .val (.long q2), .second, .val (.long q3), .second, .val (.long q4), .second, .val (.long q5), .second, .val (.int p6), .val (.long bb), .second, .val (.long dd), .second, .val (.long hh), .second, .val (.long (bb + hh)), .second, .val (.long dl), .second, .val (.long ss), .second, .val (.long h2), .second, .val (.long ee), .second, .val (.long ((bb + hh) + dl)), .second, .val (.long c2), .second, .val (.ref b17), .val (.long (q3 + (own_fd (p6.toInt64) (1000000 : Int64)))), .second, .unset, .unset, .unset, .unset, .unset, .unset, .unset, .unset, .unset, .unset, .unset, .unset, .unset, .unset] [(.long h2), (.long ((bb + hh) + dl)), (.ref b17)])) _
    refine XS.lsub X37.here hx rfl (hb hby at_127) rfl ?_
    show Steps p.tables e below (T37.setTop (mkF m 128 #[.val (.long q1), .second, .val (.long q2), .second, .val (.long q3), .second, .val (.long q4), .second, .val (.long q5), .second, .val (.int p6), .val (.long bb), .second, .val (.long dd), .second, .val (.long hh), .second, .val (.long (bb + hh)), .second, .val (.long dl), .second, .val (.long ss), .second, .val (.long h2), .second, .val (.long ee), .second, .val (.long ((bb + hh) + dl)), .second, .val (.long c2), .second, .val (.ref b17), .val (.long (q3 + (own_fd (p6.toInt64) (1000000 : Int64)))), .second, .unset, .unset, .unset, .unset, .unset, .unset, .unset, .unset, .unset, .unset, .unset, .unset, .unset, .unset] [(.long (((bb + hh) + dl) - h2)), (.ref b17)])) _
    refine XS.lload X37.here hx rfl (hb hby at_128) rfl ?_
    show Steps p.tables e below (T37.setTop (mkF m 130 #[.val (.long q1), .second, .val (.long q2), .second, .val (.long q3), .second, .val (.long q4), .second, .val (.long q5), .second, .val (.int p6), .val (.long bb), .second, .val (.long dd), .second, .val (.long hh), .second, .val (.long (bb + hh)), .second, .val (.long dl), .second, .val (.long ss), .second, .val (.long h2), .second, .val (.long ee), .second, .val (.long ((bb + hh) + dl)), .second, .val (.long c2), .second, .val (.ref b17), .val (.long (q3 + (own_fd (p6.toInt64) (1000000 : Int64)))), .second, .unset, .unset, .unset, .unset, .unset, .unset, .unset, .unset, .unset, .unset, .unset, .unset, .unset, .unset] [(.long c2), (.long (((bb + hh) + dl) - h2)), (.ref b17)])) _
    refine XS.lload X37.here hx rfl (hb hby at_130) rfl ?_
    show Steps p.tables e below (T37.setTop (mkF m 132 #[.val (.long q1), .second, .val (.long q2), .second, .val (.long q3), .second, .val (.long q4), .second, .val (.long q5), .second, .val (.int p6), .val (.long bb), .second, .val (.long dd), .second, .val (.long hh), .second, .val (.long (bb + hh)), .second, .val (.long dl), .second, .val (.long ss), .second, .val (.long h2), .second, .val (.long ee), .second, .val (.long ((bb + hh) + dl)), .second, .val (.long c2), .second, .val (.ref b17), .val (.long (q3 + (own_fd (p6.toInt64) (1000000 : Int64)))), .second, .unset, .unset, .unset, .unset, .unset, .unset, .unset, .unset, .unset, .unset, .unset, .unset, .unset, .unset] [(.long ((bb + hh) + dl)), (.long c2), (.long (((bb + hh) + dl) - h2)), (.ref b17)])) _
    refine XS.lload X37.here hx rfl (hb hby at_132) rfl ?_
    show Steps p.tables e below (T37.setTop (mkF m 134 #[.val (.long q1), .second, .val (.long q2), .second, .val (.long q3), .second, .val (.long q4), .second, .val (.long q5), .second, .val (.int p6), .val (.long bb), .second, .val (.long dd), .second, .val (.long hh), .second, .val (.long (bb + hh)), .second, .val (.long dl), .second, .val (.long ss), .second, .val (.long h2), .second, .val (.long ee), .second, .val (.long ((bb + hh) + dl)), .second, .val (.long c2), .second, .val (.ref b17), .val (.long (q3 + (own_fd (p6.toInt64) (1000000 : Int64)))), .second, .unset, .unset, .unset, .unset, .unset, .unset, .unset, .unset, .unset, .unset, .unset, .unset, .unset, .unset] [(.long h2), (.long ((bb + hh) + dl)), (.long c2), (.long (((bb + hh) + dl) - h2)), (.ref b17)])) _
    refine XS.ladd X37.here hx rfl (hb hby at_134) rfl ?_
    show Steps p.tables e below (T37.setTop (mkF m 135 #[.val (.long q1), .second, .val (.long q2), .second, .val (.long q3), .second, .val (.long q4), .second, .val (.long q5), .second, .val (.int p6), .val (.long bb), .second, .val (.long dd), .second, .val (.long hh), .second, .val (.long (bb + hh)), .second, .val (.long dl), .second, .val (.long ss), .second, .val (.long h2), .second, .val (.long ee), .second, .val (.long ((bb + hh) + dl)), .second, .val (.long c2), .second, .val (.ref b17), .val (.long (q3 + (own_fd (p6.toInt64) (1000000 : Int64)))), .second, .unset, .unset, .unset, .unset, .unset, .unset, .unset, .unset, .unset, .unset, .unset, .unset, .unset, .unset] [(.long (((bb + hh) + dl) + h2)), (.long c2), (.long (((bb + hh) + dl) - h2)), (.ref b17)])) _
    refine XS.lload X37.here hx rfl (hb hby at_135) rfl ?_
    show Steps p.tables e below (T37.setTop (mkF m 137 #[.val (.long q1), .second, .val (.long q2), .second, .val (.long q3), .second, .val (.long q4), .second, .val (.long q5), .second, .val (.int p6), .val (.long bb), .second, .val (.long dd), .second, .val (.long hh), .second, .val (.long (bb + hh)), .second, .val (.long dl), .second, .val (.long ss), .second, .val (.long h2), .second, .val (.long ee), .second, .val (.long ((bb + hh) + dl)), .second, .val (.long c2), .second, .val (.ref b17), .val (.long (q3 + (own_fd (p6.toInt64) (1000000 : Int64)))), .second, .unset, .unset, .unset, .unset, .unset, .unset, .unset, .unset, .unset, .unset, .unset, .unset, .unset, .unset] [(.long ee), (.long (((bb + hh) + dl) + h2)), (.long c2), (.long (((bb + hh) + dl) - h2)), (.ref b17)])) _
    refine XS.ladd X37.here hx rfl (hb hby at_137) rfl ?_
    show Steps p.tables e below (T37.setTop (mkF m 138 #[.val (.long q1), .second, .val (.long q2), .second, .val (.long q3), .second, .val (.long q4), .second, .val (.long q5), .second, .val (.int p6), .val (.long bb), .second, .val (.long dd), .second, .val (.long hh), .second, .val (.long (bb + hh)), .second, .val (.long dl), .second, .val (.long ss), .second, .val (.long h2), .second, .val (.long ee), .second, .val (.long ((bb + hh) + dl)), .second, .val (.long c2), .second, .val (.ref b17), .val (.long (q3 + (own_fd (p6.toInt64) (1000000 : Int64)))), .second, .unset, .unset, .unset, .unset, .unset, .unset, .unset, .unset, .unset, .unset, .unset, .unset, .unset, .unset] [(.long ((((bb + hh) + dl) + h2) + ee)), (.long c2), (.long (((bb + hh) + dl) - h2)), (.ref b17)])) _
    exact kt
  have hX42 : (((((bb + hh) + dl) - h2) + ((((((bb + hh) + dl) + h2) + ee) - (((bb + hh) + dl) - h2)) / (2 : Int64))) - (bb + (((bb + dd) - bb) / (2 : Int64)))).toInt.natAbs ≤ 2 ^ 30 := by rw [own_d2 _ _ _ pj15 pj16, own_d3, own_d1 bb dd hh 0 pj7 pj8 pj9, own_mo]; exact pj10
  obtain ⟨cq43, kq43, qa43, qb43, qc43⟩ := isOf hZ eq37 g27
  obtain ⟨_, _, ⟨T43, L43, k43, n43⟩, -, X43, ⟨Lc43, hQ43, l43, y43, z43⟩, st43⟩ := X37.virtualBack hx (y := (⟨"com/example/backplane/backplane/ClusterClock", "sample", "(JJJ)V"⟩ : MethodName)) (z := (⟨"com/example/backplane/backplane/ClusterClock", "sample", "(JJJ)V"⟩ : MethodName)) hown (mvT hZ (hw _ (own_w 16 rfl))) (mvT hZ (hw _ (own_w 17 rfl))) (notFace_of_selects (args := #[]) (mvT hZ (hw _ (own_w 19 rfl)))) (mvT hZ (hw _ (own_w 19 rfl))) (mvT hZ (hw _ (own_w 18 rfl))) (by decide) (backOf (W := 0) (rmsm2 l Z a0 hw [] b17 (((bb + hh) + dl) - h2) c2 ((((bb + hh) + dl) + h2) + ee) b25 q3 (bb + (((bb + dd) - bb) / (2 : Int64))) (((bb + dd) - bb) / (2 : Int64)) T24.heap n0 zs35 g27 ge18 g28 g29 g30 g31 g32 (Ne.symm ne33) hX42) hZ (hw _ (own_w 20 rfl)) (hw _ (own_w 9 rfl)) (by decide) (by decide)) qa43 qc43 (g := (mkF m 138 #[.val (.long q1), .second, .val (.long q2), .second, .val (.long q3), .second, .val (.long q4), .second, .val (.long q5), .second, .val (.int p6), .val (.long bb), .second, .val (.long dd), .second, .val (.long hh), .second, .val (.long (bb + hh)), .second, .val (.long dl), .second, .val (.long ss), .second, .val (.long h2), .second, .val (.long ee), .second, .val (.long ((bb + hh) + dl)), .second, .val (.long c2), .second, .val (.ref b17), .val (.long (q3 + (own_fd (p6.toInt64) (1000000 : Int64)))), .second, .unset, .unset, .unset, .unset, .unset, .unset, .unset, .unset, .unset, .unset, .unset, .unset, .unset, .unset] [(.long ((((bb + hh) + dl) + h2) + ee)), (.long c2), (.long (((bb + hh) + dl) - h2)), (.ref b17)])) rfl (by rw [hml]; rfl) (Steps.refl _) (argsL := [(.long (((bb + hh) + dl) - h2)), (.long c2), (.long ((((bb + hh) + dl) + h2) + ee))]) (rest := []) (lenOf pd_1 rfl) rfl (by show 2 * 0 + _ ≤ _; exact Nat.le_of_eq rfl) (hb hby at_138) (fun _ _ => ⟨rfl, eq37, (by decide : 2 + 1 ≤ _), (by decide : 4 + 3 ≤ _)⟩)
  dsimp only [Pt.U, Pt.locs, Pt.cells, Pt.slots] at X43 l43 y43 z43 st43 hQ43
  subst l43 y43 z43
  obtain ⟨r44, rfl, Nq43, K43, g45, g46, g47, g48, g49⟩ := hQ43
  have N43 := Fr.app N37 Nq43
  have zs50 : n0 ≤ T43.heap.size := Nat.le_trans zs35 K43.1
  have pre51 : own_Go p e below S0 (T43.setTop (mkF m 149 #[.val (.long q1), .second, .val (.long q2), .second, .val (.long q3), .second, .val (.long q4), .second, .val (.long q5), .second, .val (.int p6), .val (.long bb), .second, .val (.long dd), .second, .val (.long hh), .second, .val (.long (bb + hh)), .second, .val (.long dl), .second, .val (.long ss), .second, .val (.long h2), .second, .val (.long ee), .second, .val (.long ((bb + hh) + dl)), .second, .val (.long c2), .second, .val (.ref b17), .val (.long (q3 + (own_fd (p6.toInt64) (1000000 : Int64)))), .second, .unset, .unset, .unset, .unset, .unset, .unset, .unset, .unset, .unset, .unset, .unset, .unset, .unset, .unset] [(.long ((bb + hh) + (p6.toInt64))), (.ref b17)])) := by
    intro t kt
    refine pre41 t ?_
    refine st43.trans ?_
    show Steps p.tables e below (T43.setTop (mkF m 141 #[.val (.long q1), .second, .val (.long q2), .second, .val (.long q3), .second, .val (.long q4), .second, .val (.long q5), .second, .val (.int p6), .val (.long bb), .second, .val (.long dd), .second, .val (.long hh), .second, .val (.long (bb + hh)), .second, .val (.long dl), .second, .val (.long ss), .second, .val (.long h2), .second, .val (.long ee), .second, .val (.long ((bb + hh) + dl)), .second, .val (.long c2), .second, .val (.ref b17), .val (.long (q3 + (own_fd (p6.toInt64) (1000000 : Int64)))), .second, .unset, .unset, .unset, .unset, .unset, .unset, .unset, .unset, .unset, .unset, .unset, .unset, .unset, .unset] [])) _
    refine XS.aload X43.here hx rfl (hb hby at_141) rfl rfl ?_
    show Steps p.tables e below (T43.setTop (mkF m 143 #[.val (.long q1), .second, .val (.long q2), .second, .val (.long q3), .second, .val (.long q4), .second, .val (.long q5), .second, .val (.int p6), .val (.long bb), .second, .val (.long dd), .second, .val (.long hh), .second, .val (.long (bb + hh)), .second, .val (.long dl), .second, .val (.long ss), .second, .val (.long h2), .second, .val (.long ee), .second, .val (.long ((bb + hh) + dl)), .second, .val (.long c2), .second, .val (.ref b17), .val (.long (q3 + (own_fd (p6.toInt64) (1000000 : Int64)))), .second, .unset, .unset, .unset, .unset, .unset, .unset, .unset, .unset, .unset, .unset, .unset, .unset, .unset, .unset] [(.ref b17)])) _
    refine XS.lload X43.here hx rfl (hb hby at_143) rfl ?_
    show Steps p.tables e below (T43.setTop (mkF m 145 #[.val (.long q1), .second, .val (.long q2), .second, .val (.long q3), .second, .val (.long q4), .second, .val (.long q5), .second, .val (.int p6), .val (.long bb), .second, .val (.long dd), .second, .val (.long hh), .second, .val (.long (bb + hh)), .second, .val (.long dl), .second, .val (.long ss), .second, .val (.long h2), .second, .val (.long ee), .second, .val (.long ((bb + hh) + dl)), .second, .val (.long c2), .second, .val (.ref b17), .val (.long (q3 + (own_fd (p6.toInt64) (1000000 : Int64)))), .second, .unset, .unset, .unset, .unset, .unset, .unset, .unset, .unset, .unset, .unset, .unset, .unset, .unset, .unset] [(.long (bb + hh)), (.ref b17)])) _
    refine XS.iload X43.here hx rfl (hb hby at_145) rfl ?_
    show Steps p.tables e below (T43.setTop (mkF m 147 #[.val (.long q1), .second, .val (.long q2), .second, .val (.long q3), .second, .val (.long q4), .second, .val (.long q5), .second, .val (.int p6), .val (.long bb), .second, .val (.long dd), .second, .val (.long hh), .second, .val (.long (bb + hh)), .second, .val (.long dl), .second, .val (.long ss), .second, .val (.long h2), .second, .val (.long ee), .second, .val (.long ((bb + hh) + dl)), .second, .val (.long c2), .second, .val (.ref b17), .val (.long (q3 + (own_fd (p6.toInt64) (1000000 : Int64)))), .second, .unset, .unset, .unset, .unset, .unset, .unset, .unset, .unset, .unset, .unset, .unset, .unset, .unset, .unset] [(.int p6), (.long (bb + hh)), (.ref b17)])) _
    refine XS.i2l X43.here hx rfl (hb hby at_147) rfl ?_
    show Steps p.tables e below (T43.setTop (mkF m 148 #[.val (.long q1), .second, .val (.long q2), .second, .val (.long q3), .second, .val (.long q4), .second, .val (.long q5), .second, .val (.int p6), .val (.long bb), .second, .val (.long dd), .second, .val (.long hh), .second, .val (.long (bb + hh)), .second, .val (.long dl), .second, .val (.long ss), .second, .val (.long h2), .second, .val (.long ee), .second, .val (.long ((bb + hh) + dl)), .second, .val (.long c2), .second, .val (.ref b17), .val (.long (q3 + (own_fd (p6.toInt64) (1000000 : Int64)))), .second, .unset, .unset, .unset, .unset, .unset, .unset, .unset, .unset, .unset, .unset, .unset, .unset, .unset, .unset] [(.long (p6.toInt64)), (.long (bb + hh)), (.ref b17)])) _
    refine XS.ladd X43.here hx rfl (hb hby at_148) rfl ?_
    show Steps p.tables e below (T43.setTop (mkF m 149 #[.val (.long q1), .second, .val (.long q2), .second, .val (.long q3), .second, .val (.long q4), .second, .val (.long q5), .second, .val (.int p6), .val (.long bb), .second, .val (.long dd), .second, .val (.long hh), .second, .val (.long (bb + hh)), .second, .val (.long dl), .second, .val (.long ss), .second, .val (.long h2), .second, .val (.long ee), .second, .val (.long ((bb + hh) + dl)), .second, .val (.long c2), .second, .val (.ref b17), .val (.long (q3 + (own_fd (p6.toInt64) (1000000 : Int64)))), .second, .unset, .unset, .unset, .unset, .unset, .unset, .unset, .unset, .unset, .unset, .unset, .unset, .unset, .unset] [(.long ((bb + hh) + (p6.toInt64))), (.ref b17)])) _
    exact kt
  obtain ⟨cq52, kq52, qa52, qb52, qc52⟩ := isOf hZ rfl g45
  obtain ⟨_, _, ⟨T52, L52, k52, n52⟩, -, X52, ⟨Lc52, hQ52, l52, y52, z52⟩, st52⟩ := X43.virtualBack hx (y := (⟨"com/example/backplane/backplane/ClusterClock", "at", "(J)J"⟩ : MethodName)) (z := (⟨"com/example/backplane/backplane/ClusterClock", "at", "(J)J"⟩ : MethodName)) hown (mvT hZ (hw _ (own_w 42 rfl))) (mvT hZ (hw _ (own_w 43 rfl))) (notFace_of_selects (args := #[]) (mvT hZ (hw _ (own_w 45 rfl)))) (mvT hZ (hw _ (own_w 45 rfl))) (mvT hZ (hw _ (own_w 44 rfl))) (by decide) (backOf (W := 0) (rm7 l Z a0 hw [] b17 ((bb + hh) + (p6.toInt64)) r44 (if ((((bb + dd) - bb) / (2 : Int64)) + (own_X (((((bb + hh) + dl) - h2) + ((((((bb + hh) + dl) + h2) + ee) - (((bb + hh) + dl) - h2)) / (2 : Int64))) - (bb + (((bb + dd) - bb) / (2 : Int64)))))) < ((((((bb + hh) + dl) + h2) + ee) - (((bb + hh) + dl) - h2)) / (2 : Int64)) then q3 else c2) (if ((((bb + dd) - bb) / (2 : Int64)) + (own_X (((((bb + hh) + dl) - h2) + ((((((bb + hh) + dl) + h2) + ee) - (((bb + hh) + dl) - h2)) / (2 : Int64))) - (bb + (((bb + dd) - bb) / (2 : Int64)))))) < ((((((bb + hh) + dl) + h2) + ee) - (((bb + hh) + dl) - h2)) / (2 : Int64)) then (bb + (((bb + dd) - bb) / (2 : Int64))) else ((((bb + hh) + dl) - h2) + ((((((bb + hh) + dl) + h2) + ee) - (((bb + hh) + dl) - h2)) / (2 : Int64)))) T43.heap n0 zs50 g46 g47 g48 g49) hZ (hw _ (own_w 46 rfl)) (hw _ (own_w 9 rfl)) (by decide) (by decide)) qa52 qc52 (g := (mkF m 149 #[.val (.long q1), .second, .val (.long q2), .second, .val (.long q3), .second, .val (.long q4), .second, .val (.long q5), .second, .val (.int p6), .val (.long bb), .second, .val (.long dd), .second, .val (.long hh), .second, .val (.long (bb + hh)), .second, .val (.long dl), .second, .val (.long ss), .second, .val (.long h2), .second, .val (.long ee), .second, .val (.long ((bb + hh) + dl)), .second, .val (.long c2), .second, .val (.ref b17), .val (.long (q3 + (own_fd (p6.toInt64) (1000000 : Int64)))), .second, .unset, .unset, .unset, .unset, .unset, .unset, .unset, .unset, .unset, .unset, .unset, .unset, .unset, .unset] [(.long ((bb + hh) + (p6.toInt64))), (.ref b17)])) rfl (by rw [hml]; rfl) (Steps.refl _) (argsL := [(.long ((bb + hh) + (p6.toInt64)))]) (rest := []) (lenOf pd_3 rfl) rfl (by show 2 * 0 + _ ≤ _; exact Nat.le_of_eq rfl) (hb hby at_149) (fun _ _ => ⟨rfl, rfl, (by decide : 3 + 0 ≤ _), (by decide : 7 + 0 ≤ _)⟩)
  dsimp only [Pt.U, Pt.locs, Pt.cells, Pt.slots] at X52 l52 y52 z52 st52 hQ52
  subst l52 y52 z52
  obtain ⟨rfl, Nq52, eq52⟩ := hQ52
  have N52 := Fr.app N43 Nq52
  have ea53 : ((if ((((bb + dd) - bb) / (2 : Int64)) + (own_X (((((bb + hh) + dl) - h2) + ((((((bb + hh) + dl) + h2) + ee) - (((bb + hh) + dl) - h2)) / (2 : Int64))) - (bb + (((bb + dd) - bb) / (2 : Int64)))))) < ((((((bb + hh) + dl) + h2) + ee) - (((bb + hh) + dl) - h2)) / (2 : Int64)) then q3 else c2) + (own_fd (((bb + hh) + (p6.toInt64)) - (if ((((bb + dd) - bb) / (2 : Int64)) + (own_X (((((bb + hh) + dl) - h2) + ((((((bb + hh) + dl) + h2) + ee) - (((bb + hh) + dl) - h2)) / (2 : Int64))) - (bb + (((bb + dd) - bb) / (2 : Int64)))))) < ((((((bb + hh) + dl) + h2) + ee) - (((bb + hh) + dl) - h2)) / (2 : Int64)) then (bb + (((bb + dd) - bb) / (2 : Int64))) else ((((bb + hh) + dl) - h2) + ((((((bb + hh) + dl) + h2) + ee) - (((bb + hh) + dl) - h2)) / (2 : Int64))))) (1000000 : Int64))) = (own_rr q3 c2 (p6.toInt64) dl hh h2) := by
    rw [own_d2 _ _ _ pj15 pj16, own_d3, own_d1 bb dd hh 0 pj7 pj8 pj9, own_mo]
    unfold own_rr
    split
    · rw [own_mo]
    · rw [own_mo2]
  have pre54 : own_Go p e below S0 (T52.setTop (mkF m 152 #[.val (.long q1), .second, .val (.long q2), .second, .val (.long q3), .second, .val (.long q4), .second, .val (.long q5), .second, .val (.int p6), .val (.long bb), .second, .val (.long dd), .second, .val (.long hh), .second, .val (.long (bb + hh)), .second, .val (.long dl), .second, .val (.long ss), .second, .val (.long h2), .second, .val (.long ee), .second, .val (.long ((bb + hh) + dl)), .second, .val (.long c2), .second, .val (.ref b17), .val (.long (q3 + (own_fd (p6.toInt64) (1000000 : Int64)))), .second, .unset, .unset, .unset, .unset, .unset, .unset, .unset, .unset, .unset, .unset, .unset, .unset, .unset, .unset] [(.long ((if ((((bb + dd) - bb) / (2 : Int64)) + (own_X (((((bb + hh) + dl) - h2) + ((((((bb + hh) + dl) + h2) + ee) - (((bb + hh) + dl) - h2)) / (2 : Int64))) - (bb + (((bb + dd) - bb) / (2 : Int64)))))) < ((((((bb + hh) + dl) + h2) + ee) - (((bb + hh) + dl) - h2)) / (2 : Int64)) then q3 else c2) + (own_fd (((bb + hh) + (p6.toInt64)) - (if ((((bb + dd) - bb) / (2 : Int64)) + (own_X (((((bb + hh) + dl) - h2) + ((((((bb + hh) + dl) + h2) + ee) - (((bb + hh) + dl) - h2)) / (2 : Int64))) - (bb + (((bb + dd) - bb) / (2 : Int64)))))) < ((((((bb + hh) + dl) + h2) + ee) - (((bb + hh) + dl) - h2)) / (2 : Int64)) then (bb + (((bb + dd) - bb) / (2 : Int64))) else ((((bb + hh) + dl) - h2) + ((((((bb + hh) + dl) + h2) + ee) - (((bb + hh) + dl) - h2)) / (2 : Int64))))) (1000000 : Int64))))])) := by
    intro t kt
    refine pre51 t ?_
    refine st52.trans ?_
    show Steps p.tables e below (T52.setTop (mkF m 152 #[.val (.long q1), .second, .val (.long q2), .second, .val (.long q3), .second, .val (.long q4), .second, .val (.long q5), .second, .val (.int p6), .val (.long bb), .second, .val (.long dd), .second, .val (.long hh), .second, .val (.long (bb + hh)), .second, .val (.long dl), .second, .val (.long ss), .second, .val (.long h2), .second, .val (.long ee), .second, .val (.long ((bb + hh) + dl)), .second, .val (.long c2), .second, .val (.ref b17), .val (.long (q3 + (own_fd (p6.toInt64) (1000000 : Int64)))), .second, .unset, .unset, .unset, .unset, .unset, .unset, .unset, .unset, .unset, .unset, .unset, .unset, .unset, .unset] [(.long ((if ((((bb + dd) - bb) / (2 : Int64)) + (own_X (((((bb + hh) + dl) - h2) + ((((((bb + hh) + dl) + h2) + ee) - (((bb + hh) + dl) - h2)) / (2 : Int64))) - (bb + (((bb + dd) - bb) / (2 : Int64)))))) < ((((((bb + hh) + dl) + h2) + ee) - (((bb + hh) + dl) - h2)) / (2 : Int64)) then q3 else c2) + (own_fd (((bb + hh) + (p6.toInt64)) - (if ((((bb + dd) - bb) / (2 : Int64)) + (own_X (((((bb + hh) + dl) - h2) + ((((((bb + hh) + dl) + h2) + ee) - (((bb + hh) + dl) - h2)) / (2 : Int64))) - (bb + (((bb + dd) - bb) / (2 : Int64)))))) < ((((((bb + hh) + dl) + h2) + ee) - (((bb + hh) + dl) - h2)) / (2 : Int64)) then (bb + (((bb + dd) - bb) / (2 : Int64))) else ((((bb + hh) + dl) - h2) + ((((((bb + hh) + dl) + h2) + ee) - (((bb + hh) + dl) - h2)) / (2 : Int64))))) (1000000 : Int64))))])) _
    exact kt
  have pre55 : own_Go p e below S0 (T52.setTop (mkF m 152 #[.val (.long q1), .second, .val (.long q2), .second, .val (.long q3), .second, .val (.long q4), .second, .val (.long q5), .second, .val (.int p6), .val (.long bb), .second, .val (.long dd), .second, .val (.long hh), .second, .val (.long (bb + hh)), .second, .val (.long dl), .second, .val (.long ss), .second, .val (.long h2), .second, .val (.long ee), .second, .val (.long ((bb + hh) + dl)), .second, .val (.long c2), .second, .val (.ref b17), .val (.long (q3 + (own_fd (p6.toInt64) (1000000 : Int64)))), .second, .unset, .unset, .unset, .unset, .unset, .unset, .unset, .unset, .unset, .unset, .unset, .unset, .unset, .unset] [(.long (own_rr q3 c2 (p6.toInt64) dl hh h2))])) := by
    intro t kt
    refine pre54 t ?_
    rw [ea53]
    exact kt
  have pre56 : own_Go p e below S0 (T52.setTop (mkF m 162 #[.val (.long q1), .second, .val (.long q2), .second, .val (.long q3), .second, .val (.long q4), .second, .val (.long q5), .second, .val (.int p6), .val (.long bb), .second, .val (.long dd), .second, .val (.long hh), .second, .val (.long (bb + hh)), .second, .val (.long dl), .second, .val (.long ss), .second, .val (.long h2), .second, .val (.long ee), .second, .val (.long ((bb + hh) + dl)), .second, .val (.long c2), .second, .val (.ref b17), .val (.long (q3 + (own_fd (p6.toInt64) (1000000 : Int64)))), .second, .val (.long (own_rr q3 c2 (p6.toInt64) dl hh h2)), .second, .val (.long (dl / (1000 : Int64))), .second, .unset, .unset, .unset, .unset, .unset, .unset, .unset, .unset, .unset, .unset] [])) := by
    intro t kt
    refine pre55 t ?_
    refine XS.lstore X52.here hx rfl (hb hby at_152) rfl (l' := #[.val (.long q1), .second, .val (.long q2), .second, .val (.long q3), .second, .val (.long q4), .second, .val (.long q5), .second, .val (.int p6), .val (.long bb), .second, .val (.long dd), .second, .val (.long hh), .second, .val (.long (bb + hh)), .second, .val (.long dl), .second, .val (.long ss), .second, .val (.long h2), .second, .val (.long ee), .second, .val (.long ((bb + hh) + dl)), .second, .val (.long c2), .second, .val (.ref b17), .val (.long (q3 + (own_fd (p6.toInt64) (1000000 : Int64)))), .second, .val (.long (own_rr q3 c2 (p6.toInt64) dl hh h2)), .second, .unset, .unset, .unset, .unset, .unset, .unset, .unset, .unset, .unset, .unset, .unset, .unset]) rfl ?_
    show Steps p.tables e below (T52.setTop (mkF m 154 #[.val (.long q1), .second, .val (.long q2), .second, .val (.long q3), .second, .val (.long q4), .second, .val (.long q5), .second, .val (.int p6), .val (.long bb), .second, .val (.long dd), .second, .val (.long hh), .second, .val (.long (bb + hh)), .second, .val (.long dl), .second, .val (.long ss), .second, .val (.long h2), .second, .val (.long ee), .second, .val (.long ((bb + hh) + dl)), .second, .val (.long c2), .second, .val (.ref b17), .val (.long (q3 + (own_fd (p6.toInt64) (1000000 : Int64)))), .second, .val (.long (own_rr q3 c2 (p6.toInt64) dl hh h2)), .second, .unset, .unset, .unset, .unset, .unset, .unset, .unset, .unset, .unset, .unset, .unset, .unset] [])) _
    refine XS.lload X52.here hx rfl (hb hby at_154) rfl ?_
    show Steps p.tables e below (T52.setTop (mkF m 156 #[.val (.long q1), .second, .val (.long q2), .second, .val (.long q3), .second, .val (.long q4), .second, .val (.long q5), .second, .val (.int p6), .val (.long bb), .second, .val (.long dd), .second, .val (.long hh), .second, .val (.long (bb + hh)), .second, .val (.long dl), .second, .val (.long ss), .second, .val (.long h2), .second, .val (.long ee), .second, .val (.long ((bb + hh) + dl)), .second, .val (.long c2), .second, .val (.ref b17), .val (.long (q3 + (own_fd (p6.toInt64) (1000000 : Int64)))), .second, .val (.long (own_rr q3 c2 (p6.toInt64) dl hh h2)), .second, .unset, .unset, .unset, .unset, .unset, .unset, .unset, .unset, .unset, .unset, .unset, .unset] [(.long dl)])) _
    refine X52.ldc2Long hx hown (mvT hZ (hw _ (own_w 72 rfl))) (g := (mkF m 156 #[.val (.long q1), .second, .val (.long q2), .second, .val (.long q3), .second, .val (.long q4), .second, .val (.long q5), .second, .val (.int p6), .val (.long bb), .second, .val (.long dd), .second, .val (.long hh), .second, .val (.long (bb + hh)), .second, .val (.long dl), .second, .val (.long ss), .second, .val (.long h2), .second, .val (.long ee), .second, .val (.long ((bb + hh) + dl)), .second, .val (.long c2), .second, .val (.ref b17), .val (.long (q3 + (own_fd (p6.toInt64) (1000000 : Int64)))), .second, .val (.long (own_rr q3 c2 (p6.toInt64) dl hh h2)), .second, .unset, .unset, .unset, .unset, .unset, .unset, .unset, .unset, .unset, .unset, .unset, .unset] [(.long dl)])) rfl (hb hby at_156) _ ?_
    show Steps p.tables e below (T52.setTop (mkF m 159 #[.val (.long q1), .second, .val (.long q2), .second, .val (.long q3), .second, .val (.long q4), .second, .val (.long q5), .second, .val (.int p6), .val (.long bb), .second, .val (.long dd), .second, .val (.long hh), .second, .val (.long (bb + hh)), .second, .val (.long dl), .second, .val (.long ss), .second, .val (.long h2), .second, .val (.long ee), .second, .val (.long ((bb + hh) + dl)), .second, .val (.long c2), .second, .val (.ref b17), .val (.long (q3 + (own_fd (p6.toInt64) (1000000 : Int64)))), .second, .val (.long (own_rr q3 c2 (p6.toInt64) dl hh h2)), .second, .unset, .unset, .unset, .unset, .unset, .unset, .unset, .unset, .unset, .unset, .unset, .unset] [(.long (1000 : Int64)), (.long dl)])) _
    refine XS.ldiv X52.here hx rfl (hb hby at_159) rfl (by decide) ?_
    show Steps p.tables e below (T52.setTop (mkF m 160 #[.val (.long q1), .second, .val (.long q2), .second, .val (.long q3), .second, .val (.long q4), .second, .val (.long q5), .second, .val (.int p6), .val (.long bb), .second, .val (.long dd), .second, .val (.long hh), .second, .val (.long (bb + hh)), .second, .val (.long dl), .second, .val (.long ss), .second, .val (.long h2), .second, .val (.long ee), .second, .val (.long ((bb + hh) + dl)), .second, .val (.long c2), .second, .val (.ref b17), .val (.long (q3 + (own_fd (p6.toInt64) (1000000 : Int64)))), .second, .val (.long (own_rr q3 c2 (p6.toInt64) dl hh h2)), .second, .unset, .unset, .unset, .unset, .unset, .unset, .unset, .unset, .unset, .unset, .unset, .unset] [(.long (dl / (1000 : Int64)))])) _
    refine XS.lstore X52.here hx rfl (hb hby at_160) rfl (l' := #[.val (.long q1), .second, .val (.long q2), .second, .val (.long q3), .second, .val (.long q4), .second, .val (.long q5), .second, .val (.int p6), .val (.long bb), .second, .val (.long dd), .second, .val (.long hh), .second, .val (.long (bb + hh)), .second, .val (.long dl), .second, .val (.long ss), .second, .val (.long h2), .second, .val (.long ee), .second, .val (.long ((bb + hh) + dl)), .second, .val (.long c2), .second, .val (.ref b17), .val (.long (q3 + (own_fd (p6.toInt64) (1000000 : Int64)))), .second, .val (.long (own_rr q3 c2 (p6.toInt64) dl hh h2)), .second, .val (.long (dl / (1000 : Int64))), .second, .unset, .unset, .unset, .unset, .unset, .unset, .unset, .unset, .unset, .unset]) rfl ?_
    show Steps p.tables e below (T52.setTop (mkF m 162 #[.val (.long q1), .second, .val (.long q2), .second, .val (.long q3), .second, .val (.long q4), .second, .val (.long q5), .second, .val (.int p6), .val (.long bb), .second, .val (.long dd), .second, .val (.long hh), .second, .val (.long (bb + hh)), .second, .val (.long dl), .second, .val (.long ss), .second, .val (.long h2), .second, .val (.long ee), .second, .val (.long ((bb + hh) + dl)), .second, .val (.long c2), .second, .val (.ref b17), .val (.long (q3 + (own_fd (p6.toInt64) (1000000 : Int64)))), .second, .val (.long (own_rr q3 c2 (p6.toInt64) dl hh h2)), .second, .val (.long (dl / (1000 : Int64))), .second, .unset, .unset, .unset, .unset, .unset, .unset, .unset, .unset, .unset, .unset] [])) _
    exact kt
  obtain ⟨Tj57, lj57, Xj57, Nj57, ej57, prej57⟩ : ∃ (Tj57 : State) (lj57 : List Loc), Stand p l e room_1 s m #[(.long q1), (.long q2), (.long q3), (.long q4), (.long q5), (.int p6)] below meth c Tj57 lj57 3 7 ∧ Fr n0 lj57 ∧ Tj57.heap = T43.heap ∧ own_Go p e below S0 (Tj57.setTop (mkF m 181 #[.val (.long q1), .second, .val (.long q2), .second, .val (.long q3), .second, .val (.long q4), .second, .val (.long q5), .second, .val (.int p6), .val (.long bb), .second, .val (.long dd), .second, .val (.long hh), .second, .val (.long (bb + hh)), .second, .val (.long dl), .second, .val (.long ss), .second, .val (.long h2), .second, .val (.long ee), .second, .val (.long ((bb + hh) + dl)), .second, .val (.long c2), .second, .val (.ref b17), .val (.long (q3 + (own_fd (p6.toInt64) (1000000 : Int64)))), .second, .val (.long (own_rr q3 c2 (p6.toInt64) dl hh h2)), .second, .val (.long (dl / (1000 : Int64))), .second, .unset, .unset, .unset, .unset, .unset, .unset, .unset, .unset, .unset, .unset] [(.long (own_lo hh dl))])) := by
    have pre59 : own_Go p e below S0 (T52.setTop (mkF m 166 #[.val (.long q1), .second, .val (.long q2), .second, .val (.long q3), .second, .val (.long q4), .second, .val (.long q5), .second, .val (.int p6), .val (.long bb), .second, .val (.long dd), .second, .val (.long hh), .second, .val (.long (bb + hh)), .second, .val (.long dl), .second, .val (.long ss), .second, .val (.long h2), .second, .val (.long ee), .second, .val (.long ((bb + hh) + dl)), .second, .val (.long c2), .second, .val (.ref b17), .val (.long (q3 + (own_fd (p6.toInt64) (1000000 : Int64)))), .second, .val (.long (own_rr q3 c2 (p6.toInt64) dl hh h2)), .second, .val (.long (dl / (1000 : Int64))), .second, .unset, .unset, .unset, .unset, .unset, .unset, .unset, .unset, .unset, .unset] [(.int (lcmpW dl (0 : Int64)))])) := by
      intro t kt
      refine pre56 t ?_
      refine XS.lload X52.here hx rfl (hb hby at_162) rfl ?_
      show Steps p.tables e below (T52.setTop (mkF m 164 #[.val (.long q1), .second, .val (.long q2), .second, .val (.long q3), .second, .val (.long q4), .second, .val (.long q5), .second, .val (.int p6), .val (.long bb), .second, .val (.long dd), .second, .val (.long hh), .second, .val (.long (bb + hh)), .second, .val (.long dl), .second, .val (.long ss), .second, .val (.long h2), .second, .val (.long ee), .second, .val (.long ((bb + hh) + dl)), .second, .val (.long c2), .second, .val (.ref b17), .val (.long (q3 + (own_fd (p6.toInt64) (1000000 : Int64)))), .second, .val (.long (own_rr q3 c2 (p6.toInt64) dl hh h2)), .second, .val (.long (dl / (1000 : Int64))), .second, .unset, .unset, .unset, .unset, .unset, .unset, .unset, .unset, .unset, .unset] [(.long dl)])) _
      refine XS.lconst X52.here hx rfl (hb hby at_164) ?_
      show Steps p.tables e below (T52.setTop (mkF m 165 #[.val (.long q1), .second, .val (.long q2), .second, .val (.long q3), .second, .val (.long q4), .second, .val (.long q5), .second, .val (.int p6), .val (.long bb), .second, .val (.long dd), .second, .val (.long hh), .second, .val (.long (bb + hh)), .second, .val (.long dl), .second, .val (.long ss), .second, .val (.long h2), .second, .val (.long ee), .second, .val (.long ((bb + hh) + dl)), .second, .val (.long c2), .second, .val (.ref b17), .val (.long (q3 + (own_fd (p6.toInt64) (1000000 : Int64)))), .second, .val (.long (own_rr q3 c2 (p6.toInt64) dl hh h2)), .second, .val (.long (dl / (1000 : Int64))), .second, .unset, .unset, .unset, .unset, .unset, .unset, .unset, .unset, .unset, .unset] [(.long (0 : Int64)), (.long dl)])) _
      refine XS.lcmp X52.here hx rfl (hb hby at_165) rfl ?_
      show Steps p.tables e below (T52.setTop (mkF m 166 #[.val (.long q1), .second, .val (.long q2), .second, .val (.long q3), .second, .val (.long q4), .second, .val (.long q5), .second, .val (.int p6), .val (.long bb), .second, .val (.long dd), .second, .val (.long hh), .second, .val (.long (bb + hh)), .second, .val (.long dl), .second, .val (.long ss), .second, .val (.long h2), .second, .val (.long ee), .second, .val (.long ((bb + hh) + dl)), .second, .val (.long c2), .second, .val (.ref b17), .val (.long (q3 + (own_fd (p6.toInt64) (1000000 : Int64)))), .second, .val (.long (own_rr q3 c2 (p6.toInt64) dl hh h2)), .second, .val (.long (dl / (1000 : Int64))), .second, .unset, .unset, .unset, .unset, .unset, .unset, .unset, .unset, .unset, .unset] [(.int (lcmpW dl (0 : Int64)))])) _
      exact kt
    by_cases hc58 : dl = (0 : Int64)
    · have pre60 : own_Go p e below S0 (T52.setTop (mkF m 181 #[.val (.long q1), .second, .val (.long q2), .second, .val (.long q3), .second, .val (.long q4), .second, .val (.long q5), .second, .val (.int p6), .val (.long bb), .second, .val (.long dd), .second, .val (.long hh), .second, .val (.long (bb + hh)), .second, .val (.long dl), .second, .val (.long ss), .second, .val (.long h2), .second, .val (.long ee), .second, .val (.long ((bb + hh) + dl)), .second, .val (.long c2), .second, .val (.ref b17), .val (.long (q3 + (own_fd (p6.toInt64) (1000000 : Int64)))), .second, .val (.long (own_rr q3 c2 (p6.toInt64) dl hh h2)), .second, .val (.long (dl / (1000 : Int64))), .second, .unset, .unset, .unset, .unset, .unset, .unset, .unset, .unset, .unset, .unset] [(.long hh)])) := by
        intro t kt
        refine pre59 t ?_
        refine XS.ifNo X52.here hx rfl (hb hby at_166) rfl ((if0 _ _).trans (teq ((lw_eq _ _).mpr hc58)).2) ?_
        show Steps p.tables e below (T52.setTop (mkF m 169 #[.val (.long q1), .second, .val (.long q2), .second, .val (.long q3), .second, .val (.long q4), .second, .val (.long q5), .second, .val (.int p6), .val (.long bb), .second, .val (.long dd), .second, .val (.long hh), .second, .val (.long (bb + hh)), .second, .val (.long dl), .second, .val (.long ss), .second, .val (.long h2), .second, .val (.long ee), .second, .val (.long ((bb + hh) + dl)), .second, .val (.long c2), .second, .val (.ref b17), .val (.long (q3 + (own_fd (p6.toInt64) (1000000 : Int64)))), .second, .val (.long (own_rr q3 c2 (p6.toInt64) dl hh h2)), .second, .val (.long (dl / (1000 : Int64))), .second, .unset, .unset, .unset, .unset, .unset, .unset, .unset, .unset, .unset, .unset] [])) _
        refine XS.lload X52.here hx rfl (hb hby at_169) rfl ?_
        show Steps p.tables e below (T52.setTop (mkF m 171 #[.val (.long q1), .second, .val (.long q2), .second, .val (.long q3), .second, .val (.long q4), .second, .val (.long q5), .second, .val (.int p6), .val (.long bb), .second, .val (.long dd), .second, .val (.long hh), .second, .val (.long (bb + hh)), .second, .val (.long dl), .second, .val (.long ss), .second, .val (.long h2), .second, .val (.long ee), .second, .val (.long ((bb + hh) + dl)), .second, .val (.long c2), .second, .val (.ref b17), .val (.long (q3 + (own_fd (p6.toInt64) (1000000 : Int64)))), .second, .val (.long (own_rr q3 c2 (p6.toInt64) dl hh h2)), .second, .val (.long (dl / (1000 : Int64))), .second, .unset, .unset, .unset, .unset, .unset, .unset, .unset, .unset, .unset, .unset] [(.long hh)])) _
        refine XS.goto X52.here hx rfl (pc0 := 171) (pc' := 181) rfl (hb hby at_171) (by decide) (by decide) ?_
        show Steps p.tables e below (T52.setTop (mkF m 181 #[.val (.long q1), .second, .val (.long q2), .second, .val (.long q3), .second, .val (.long q4), .second, .val (.long q5), .second, .val (.int p6), .val (.long bb), .second, .val (.long dd), .second, .val (.long hh), .second, .val (.long (bb + hh)), .second, .val (.long dl), .second, .val (.long ss), .second, .val (.long h2), .second, .val (.long ee), .second, .val (.long ((bb + hh) + dl)), .second, .val (.long c2), .second, .val (.ref b17), .val (.long (q3 + (own_fd (p6.toInt64) (1000000 : Int64)))), .second, .val (.long (own_rr q3 c2 (p6.toInt64) dl hh h2)), .second, .val (.long (dl / (1000 : Int64))), .second, .unset, .unset, .unset, .unset, .unset, .unset, .unset, .unset, .unset, .unset] [(.long hh)])) _
        exact kt
      have pre61 : own_Go p e below S0 (T52.setTop (mkF m 181 #[.val (.long q1), .second, .val (.long q2), .second, .val (.long q3), .second, .val (.long q4), .second, .val (.long q5), .second, .val (.int p6), .val (.long bb), .second, .val (.long dd), .second, .val (.long hh), .second, .val (.long (bb + hh)), .second, .val (.long dl), .second, .val (.long ss), .second, .val (.long h2), .second, .val (.long ee), .second, .val (.long ((bb + hh) + dl)), .second, .val (.long c2), .second, .val (.ref b17), .val (.long (q3 + (own_fd (p6.toInt64) (1000000 : Int64)))), .second, .val (.long (own_rr q3 c2 (p6.toInt64) dl hh h2)), .second, .val (.long (dl / (1000 : Int64))), .second, .unset, .unset, .unset, .unset, .unset, .unset, .unset, .unset, .unset, .unset] [(.long (own_lo hh dl))])) := by
        intro t kt
        refine pre60 t ?_
        exact castTop (by rw [own_lo, if_pos hc58]) kt
      exact ⟨T52, _, (Stand.mono X52 (by decide) (by decide)), N52, eq52, pre61⟩
    · have pre62 : own_Go p e below S0 (T52.setTop (mkF m 181 #[.val (.long q1), .second, .val (.long q2), .second, .val (.long q3), .second, .val (.long q4), .second, .val (.long q5), .second, .val (.int p6), .val (.long bb), .second, .val (.long dd), .second, .val (.long hh), .second, .val (.long (bb + hh)), .second, .val (.long dl), .second, .val (.long ss), .second, .val (.long h2), .second, .val (.long ee), .second, .val (.long ((bb + hh) + dl)), .second, .val (.long c2), .second, .val (.ref b17), .val (.long (q3 + (own_fd (p6.toInt64) (1000000 : Int64)))), .second, .val (.long (own_rr q3 c2 (p6.toInt64) dl hh h2)), .second, .val (.long (dl / (1000 : Int64))), .second, .unset, .unset, .unset, .unset, .unset, .unset, .unset, .unset, .unset, .unset] [(.long ((hh + (dl / (1000 : Int64))) - (1 : Int64)))])) := by
        intro t kt
        refine pre59 t ?_
        refine XS.ifYes X52.here hx rfl (pc0 := 166) (pc' := 174) rfl (hb hby at_166) rfl ((if0 _ _).trans (feq (fun q => hc58 ((lw_eq _ _).mp q))).2) (by decide) (by decide) ?_
        show Steps p.tables e below (T52.setTop (mkF m 174 #[.val (.long q1), .second, .val (.long q2), .second, .val (.long q3), .second, .val (.long q4), .second, .val (.long q5), .second, .val (.int p6), .val (.long bb), .second, .val (.long dd), .second, .val (.long hh), .second, .val (.long (bb + hh)), .second, .val (.long dl), .second, .val (.long ss), .second, .val (.long h2), .second, .val (.long ee), .second, .val (.long ((bb + hh) + dl)), .second, .val (.long c2), .second, .val (.ref b17), .val (.long (q3 + (own_fd (p6.toInt64) (1000000 : Int64)))), .second, .val (.long (own_rr q3 c2 (p6.toInt64) dl hh h2)), .second, .val (.long (dl / (1000 : Int64))), .second, .unset, .unset, .unset, .unset, .unset, .unset, .unset, .unset, .unset, .unset] [])) _
        refine XS.lload X52.here hx rfl (hb hby at_174) rfl ?_
        show Steps p.tables e below (T52.setTop (mkF m 176 #[.val (.long q1), .second, .val (.long q2), .second, .val (.long q3), .second, .val (.long q4), .second, .val (.long q5), .second, .val (.int p6), .val (.long bb), .second, .val (.long dd), .second, .val (.long hh), .second, .val (.long (bb + hh)), .second, .val (.long dl), .second, .val (.long ss), .second, .val (.long h2), .second, .val (.long ee), .second, .val (.long ((bb + hh) + dl)), .second, .val (.long c2), .second, .val (.ref b17), .val (.long (q3 + (own_fd (p6.toInt64) (1000000 : Int64)))), .second, .val (.long (own_rr q3 c2 (p6.toInt64) dl hh h2)), .second, .val (.long (dl / (1000 : Int64))), .second, .unset, .unset, .unset, .unset, .unset, .unset, .unset, .unset, .unset, .unset] [(.long hh)])) _
        refine XS.lload X52.here hx rfl (hb hby at_176) rfl ?_
        show Steps p.tables e below (T52.setTop (mkF m 178 #[.val (.long q1), .second, .val (.long q2), .second, .val (.long q3), .second, .val (.long q4), .second, .val (.long q5), .second, .val (.int p6), .val (.long bb), .second, .val (.long dd), .second, .val (.long hh), .second, .val (.long (bb + hh)), .second, .val (.long dl), .second, .val (.long ss), .second, .val (.long h2), .second, .val (.long ee), .second, .val (.long ((bb + hh) + dl)), .second, .val (.long c2), .second, .val (.ref b17), .val (.long (q3 + (own_fd (p6.toInt64) (1000000 : Int64)))), .second, .val (.long (own_rr q3 c2 (p6.toInt64) dl hh h2)), .second, .val (.long (dl / (1000 : Int64))), .second, .unset, .unset, .unset, .unset, .unset, .unset, .unset, .unset, .unset, .unset] [(.long (dl / (1000 : Int64))), (.long hh)])) _
        refine XS.ladd X52.here hx rfl (hb hby at_178) rfl ?_
        show Steps p.tables e below (T52.setTop (mkF m 179 #[.val (.long q1), .second, .val (.long q2), .second, .val (.long q3), .second, .val (.long q4), .second, .val (.long q5), .second, .val (.int p6), .val (.long bb), .second, .val (.long dd), .second, .val (.long hh), .second, .val (.long (bb + hh)), .second, .val (.long dl), .second, .val (.long ss), .second, .val (.long h2), .second, .val (.long ee), .second, .val (.long ((bb + hh) + dl)), .second, .val (.long c2), .second, .val (.ref b17), .val (.long (q3 + (own_fd (p6.toInt64) (1000000 : Int64)))), .second, .val (.long (own_rr q3 c2 (p6.toInt64) dl hh h2)), .second, .val (.long (dl / (1000 : Int64))), .second, .unset, .unset, .unset, .unset, .unset, .unset, .unset, .unset, .unset, .unset] [(.long (hh + (dl / (1000 : Int64))))])) _
        refine XS.lconst X52.here hx rfl (hb hby at_179) ?_
        show Steps p.tables e below (T52.setTop (mkF m 180 #[.val (.long q1), .second, .val (.long q2), .second, .val (.long q3), .second, .val (.long q4), .second, .val (.long q5), .second, .val (.int p6), .val (.long bb), .second, .val (.long dd), .second, .val (.long hh), .second, .val (.long (bb + hh)), .second, .val (.long dl), .second, .val (.long ss), .second, .val (.long h2), .second, .val (.long ee), .second, .val (.long ((bb + hh) + dl)), .second, .val (.long c2), .second, .val (.ref b17), .val (.long (q3 + (own_fd (p6.toInt64) (1000000 : Int64)))), .second, .val (.long (own_rr q3 c2 (p6.toInt64) dl hh h2)), .second, .val (.long (dl / (1000 : Int64))), .second, .unset, .unset, .unset, .unset, .unset, .unset, .unset, .unset, .unset, .unset] [(.long (1 : Int64)), (.long (hh + (dl / (1000 : Int64))))])) _
        refine XS.lsub X52.here hx rfl (hb hby at_180) rfl ?_
        show Steps p.tables e below (T52.setTop (mkF m 181 #[.val (.long q1), .second, .val (.long q2), .second, .val (.long q3), .second, .val (.long q4), .second, .val (.long q5), .second, .val (.int p6), .val (.long bb), .second, .val (.long dd), .second, .val (.long hh), .second, .val (.long (bb + hh)), .second, .val (.long dl), .second, .val (.long ss), .second, .val (.long h2), .second, .val (.long ee), .second, .val (.long ((bb + hh) + dl)), .second, .val (.long c2), .second, .val (.ref b17), .val (.long (q3 + (own_fd (p6.toInt64) (1000000 : Int64)))), .second, .val (.long (own_rr q3 c2 (p6.toInt64) dl hh h2)), .second, .val (.long (dl / (1000 : Int64))), .second, .unset, .unset, .unset, .unset, .unset, .unset, .unset, .unset, .unset, .unset] [(.long ((hh + (dl / (1000 : Int64))) - (1 : Int64)))])) _
        exact kt
      have pre63 : own_Go p e below S0 (T52.setTop (mkF m 181 #[.val (.long q1), .second, .val (.long q2), .second, .val (.long q3), .second, .val (.long q4), .second, .val (.long q5), .second, .val (.int p6), .val (.long bb), .second, .val (.long dd), .second, .val (.long hh), .second, .val (.long (bb + hh)), .second, .val (.long dl), .second, .val (.long ss), .second, .val (.long h2), .second, .val (.long ee), .second, .val (.long ((bb + hh) + dl)), .second, .val (.long c2), .second, .val (.ref b17), .val (.long (q3 + (own_fd (p6.toInt64) (1000000 : Int64)))), .second, .val (.long (own_rr q3 c2 (p6.toInt64) dl hh h2)), .second, .val (.long (dl / (1000 : Int64))), .second, .unset, .unset, .unset, .unset, .unset, .unset, .unset, .unset, .unset, .unset] [(.long (own_lo hh dl))])) := by
        intro t kt
        refine pre62 t ?_
        exact castTop (by rw [own_lo, if_neg hc58]) kt
      exact ⟨T52, _, (Stand.mono X52 (by decide) (by decide)), N52, eq52, pre63⟩
  have pre64 : own_Go p e below S0 (Tj57.setTop (mkF m 183 #[.val (.long q1), .second, .val (.long q2), .second, .val (.long q3), .second, .val (.long q4), .second, .val (.long q5), .second, .val (.int p6), .val (.long bb), .second, .val (.long dd), .second, .val (.long hh), .second, .val (.long (bb + hh)), .second, .val (.long dl), .second, .val (.long ss), .second, .val (.long h2), .second, .val (.long ee), .second, .val (.long ((bb + hh) + dl)), .second, .val (.long c2), .second, .val (.ref b17), .val (.long (q3 + (own_fd (p6.toInt64) (1000000 : Int64)))), .second, .val (.long (own_rr q3 c2 (p6.toInt64) dl hh h2)), .second, .val (.long (dl / (1000 : Int64))), .second, .val (.long (own_lo hh dl)), .second, .unset, .unset, .unset, .unset, .unset, .unset, .unset, .unset] [])) := by
    intro t kt
    refine prej57 t ?_
    refine XS.lstore Xj57.here hx rfl (hb hby at_181) rfl (l' := #[.val (.long q1), .second, .val (.long q2), .second, .val (.long q3), .second, .val (.long q4), .second, .val (.long q5), .second, .val (.int p6), .val (.long bb), .second, .val (.long dd), .second, .val (.long hh), .second, .val (.long (bb + hh)), .second, .val (.long dl), .second, .val (.long ss), .second, .val (.long h2), .second, .val (.long ee), .second, .val (.long ((bb + hh) + dl)), .second, .val (.long c2), .second, .val (.ref b17), .val (.long (q3 + (own_fd (p6.toInt64) (1000000 : Int64)))), .second, .val (.long (own_rr q3 c2 (p6.toInt64) dl hh h2)), .second, .val (.long (dl / (1000 : Int64))), .second, .val (.long (own_lo hh dl)), .second, .unset, .unset, .unset, .unset, .unset, .unset, .unset, .unset]) rfl ?_
    show Steps p.tables e below (Tj57.setTop (mkF m 183 #[.val (.long q1), .second, .val (.long q2), .second, .val (.long q3), .second, .val (.long q4), .second, .val (.long q5), .second, .val (.int p6), .val (.long bb), .second, .val (.long dd), .second, .val (.long hh), .second, .val (.long (bb + hh)), .second, .val (.long dl), .second, .val (.long ss), .second, .val (.long h2), .second, .val (.long ee), .second, .val (.long ((bb + hh) + dl)), .second, .val (.long c2), .second, .val (.ref b17), .val (.long (q3 + (own_fd (p6.toInt64) (1000000 : Int64)))), .second, .val (.long (own_rr q3 c2 (p6.toInt64) dl hh h2)), .second, .val (.long (dl / (1000 : Int64))), .second, .val (.long (own_lo hh dl)), .second, .unset, .unset, .unset, .unset, .unset, .unset, .unset, .unset] [])) _
    exact kt
  obtain ⟨Tj65, lj65, Xj65, Nj65, ej65, prej65⟩ : ∃ (Tj65 : State) (lj65 : List Loc), Stand p l e room_1 s m #[(.long q1), (.long q2), (.long q3), (.long q4), (.long q5), (.int p6)] below meth c Tj65 lj65 3 7 ∧ Fr n0 lj65 ∧ Tj65.heap = T43.heap ∧ own_Go p e below S0 (Tj65.setTop (mkF m 202 #[.val (.long q1), .second, .val (.long q2), .second, .val (.long q3), .second, .val (.long q4), .second, .val (.long q5), .second, .val (.int p6), .val (.long bb), .second, .val (.long dd), .second, .val (.long hh), .second, .val (.long (bb + hh)), .second, .val (.long dl), .second, .val (.long ss), .second, .val (.long h2), .second, .val (.long ee), .second, .val (.long ((bb + hh) + dl)), .second, .val (.long c2), .second, .val (.ref b17), .val (.long (q3 + (own_fd (p6.toInt64) (1000000 : Int64)))), .second, .val (.long (own_rr q3 c2 (p6.toInt64) dl hh h2)), .second, .val (.long (dl / (1000 : Int64))), .second, .val (.long (own_lo hh dl)), .second, .unset, .unset, .unset, .unset, .unset, .unset, .unset, .unset] [(.long (own_hi hh dl))])) := by
    have pre67 : own_Go p e below S0 (Tj57.setTop (mkF m 187 #[.val (.long q1), .second, .val (.long q2), .second, .val (.long q3), .second, .val (.long q4), .second, .val (.long q5), .second, .val (.int p6), .val (.long bb), .second, .val (.long dd), .second, .val (.long hh), .second, .val (.long (bb + hh)), .second, .val (.long dl), .second, .val (.long ss), .second, .val (.long h2), .second, .val (.long ee), .second, .val (.long ((bb + hh) + dl)), .second, .val (.long c2), .second, .val (.ref b17), .val (.long (q3 + (own_fd (p6.toInt64) (1000000 : Int64)))), .second, .val (.long (own_rr q3 c2 (p6.toInt64) dl hh h2)), .second, .val (.long (dl / (1000 : Int64))), .second, .val (.long (own_lo hh dl)), .second, .unset, .unset, .unset, .unset, .unset, .unset, .unset, .unset] [(.int (lcmpW dl (0 : Int64)))])) := by
      intro t kt
      refine pre64 t ?_
      refine XS.lload Xj57.here hx rfl (hb hby at_183) rfl ?_
      show Steps p.tables e below (Tj57.setTop (mkF m 185 #[.val (.long q1), .second, .val (.long q2), .second, .val (.long q3), .second, .val (.long q4), .second, .val (.long q5), .second, .val (.int p6), .val (.long bb), .second, .val (.long dd), .second, .val (.long hh), .second, .val (.long (bb + hh)), .second, .val (.long dl), .second, .val (.long ss), .second, .val (.long h2), .second, .val (.long ee), .second, .val (.long ((bb + hh) + dl)), .second, .val (.long c2), .second, .val (.ref b17), .val (.long (q3 + (own_fd (p6.toInt64) (1000000 : Int64)))), .second, .val (.long (own_rr q3 c2 (p6.toInt64) dl hh h2)), .second, .val (.long (dl / (1000 : Int64))), .second, .val (.long (own_lo hh dl)), .second, .unset, .unset, .unset, .unset, .unset, .unset, .unset, .unset] [(.long dl)])) _
      refine XS.lconst Xj57.here hx rfl (hb hby at_185) ?_
      show Steps p.tables e below (Tj57.setTop (mkF m 186 #[.val (.long q1), .second, .val (.long q2), .second, .val (.long q3), .second, .val (.long q4), .second, .val (.long q5), .second, .val (.int p6), .val (.long bb), .second, .val (.long dd), .second, .val (.long hh), .second, .val (.long (bb + hh)), .second, .val (.long dl), .second, .val (.long ss), .second, .val (.long h2), .second, .val (.long ee), .second, .val (.long ((bb + hh) + dl)), .second, .val (.long c2), .second, .val (.ref b17), .val (.long (q3 + (own_fd (p6.toInt64) (1000000 : Int64)))), .second, .val (.long (own_rr q3 c2 (p6.toInt64) dl hh h2)), .second, .val (.long (dl / (1000 : Int64))), .second, .val (.long (own_lo hh dl)), .second, .unset, .unset, .unset, .unset, .unset, .unset, .unset, .unset] [(.long (0 : Int64)), (.long dl)])) _
      refine XS.lcmp Xj57.here hx rfl (hb hby at_186) rfl ?_
      show Steps p.tables e below (Tj57.setTop (mkF m 187 #[.val (.long q1), .second, .val (.long q2), .second, .val (.long q3), .second, .val (.long q4), .second, .val (.long q5), .second, .val (.int p6), .val (.long bb), .second, .val (.long dd), .second, .val (.long hh), .second, .val (.long (bb + hh)), .second, .val (.long dl), .second, .val (.long ss), .second, .val (.long h2), .second, .val (.long ee), .second, .val (.long ((bb + hh) + dl)), .second, .val (.long c2), .second, .val (.ref b17), .val (.long (q3 + (own_fd (p6.toInt64) (1000000 : Int64)))), .second, .val (.long (own_rr q3 c2 (p6.toInt64) dl hh h2)), .second, .val (.long (dl / (1000 : Int64))), .second, .val (.long (own_lo hh dl)), .second, .unset, .unset, .unset, .unset, .unset, .unset, .unset, .unset] [(.int (lcmpW dl (0 : Int64)))])) _
      exact kt
    by_cases hc66 : dl = (0 : Int64)
    · have pre68 : own_Go p e below S0 (Tj57.setTop (mkF m 202 #[.val (.long q1), .second, .val (.long q2), .second, .val (.long q3), .second, .val (.long q4), .second, .val (.long q5), .second, .val (.int p6), .val (.long bb), .second, .val (.long dd), .second, .val (.long hh), .second, .val (.long (bb + hh)), .second, .val (.long dl), .second, .val (.long ss), .second, .val (.long h2), .second, .val (.long ee), .second, .val (.long ((bb + hh) + dl)), .second, .val (.long c2), .second, .val (.ref b17), .val (.long (q3 + (own_fd (p6.toInt64) (1000000 : Int64)))), .second, .val (.long (own_rr q3 c2 (p6.toInt64) dl hh h2)), .second, .val (.long (dl / (1000 : Int64))), .second, .val (.long (own_lo hh dl)), .second, .unset, .unset, .unset, .unset, .unset, .unset, .unset, .unset] [(.long hh)])) := by
        intro t kt
        refine pre67 t ?_
        refine XS.ifNo Xj57.here hx rfl (hb hby at_187) rfl ((if0 _ _).trans (teq ((lw_eq _ _).mpr hc66)).2) ?_
        show Steps p.tables e below (Tj57.setTop (mkF m 190 #[.val (.long q1), .second, .val (.long q2), .second, .val (.long q3), .second, .val (.long q4), .second, .val (.long q5), .second, .val (.int p6), .val (.long bb), .second, .val (.long dd), .second, .val (.long hh), .second, .val (.long (bb + hh)), .second, .val (.long dl), .second, .val (.long ss), .second, .val (.long h2), .second, .val (.long ee), .second, .val (.long ((bb + hh) + dl)), .second, .val (.long c2), .second, .val (.ref b17), .val (.long (q3 + (own_fd (p6.toInt64) (1000000 : Int64)))), .second, .val (.long (own_rr q3 c2 (p6.toInt64) dl hh h2)), .second, .val (.long (dl / (1000 : Int64))), .second, .val (.long (own_lo hh dl)), .second, .unset, .unset, .unset, .unset, .unset, .unset, .unset, .unset] [])) _
        refine XS.lload Xj57.here hx rfl (hb hby at_190) rfl ?_
        show Steps p.tables e below (Tj57.setTop (mkF m 192 #[.val (.long q1), .second, .val (.long q2), .second, .val (.long q3), .second, .val (.long q4), .second, .val (.long q5), .second, .val (.int p6), .val (.long bb), .second, .val (.long dd), .second, .val (.long hh), .second, .val (.long (bb + hh)), .second, .val (.long dl), .second, .val (.long ss), .second, .val (.long h2), .second, .val (.long ee), .second, .val (.long ((bb + hh) + dl)), .second, .val (.long c2), .second, .val (.ref b17), .val (.long (q3 + (own_fd (p6.toInt64) (1000000 : Int64)))), .second, .val (.long (own_rr q3 c2 (p6.toInt64) dl hh h2)), .second, .val (.long (dl / (1000 : Int64))), .second, .val (.long (own_lo hh dl)), .second, .unset, .unset, .unset, .unset, .unset, .unset, .unset, .unset] [(.long hh)])) _
        refine XS.goto Xj57.here hx rfl (pc0 := 192) (pc' := 202) rfl (hb hby at_192) (by decide) (by decide) ?_
        show Steps p.tables e below (Tj57.setTop (mkF m 202 #[.val (.long q1), .second, .val (.long q2), .second, .val (.long q3), .second, .val (.long q4), .second, .val (.long q5), .second, .val (.int p6), .val (.long bb), .second, .val (.long dd), .second, .val (.long hh), .second, .val (.long (bb + hh)), .second, .val (.long dl), .second, .val (.long ss), .second, .val (.long h2), .second, .val (.long ee), .second, .val (.long ((bb + hh) + dl)), .second, .val (.long c2), .second, .val (.ref b17), .val (.long (q3 + (own_fd (p6.toInt64) (1000000 : Int64)))), .second, .val (.long (own_rr q3 c2 (p6.toInt64) dl hh h2)), .second, .val (.long (dl / (1000 : Int64))), .second, .val (.long (own_lo hh dl)), .second, .unset, .unset, .unset, .unset, .unset, .unset, .unset, .unset] [(.long hh)])) _
        exact kt
      have pre69 : own_Go p e below S0 (Tj57.setTop (mkF m 202 #[.val (.long q1), .second, .val (.long q2), .second, .val (.long q3), .second, .val (.long q4), .second, .val (.long q5), .second, .val (.int p6), .val (.long bb), .second, .val (.long dd), .second, .val (.long hh), .second, .val (.long (bb + hh)), .second, .val (.long dl), .second, .val (.long ss), .second, .val (.long h2), .second, .val (.long ee), .second, .val (.long ((bb + hh) + dl)), .second, .val (.long c2), .second, .val (.ref b17), .val (.long (q3 + (own_fd (p6.toInt64) (1000000 : Int64)))), .second, .val (.long (own_rr q3 c2 (p6.toInt64) dl hh h2)), .second, .val (.long (dl / (1000 : Int64))), .second, .val (.long (own_lo hh dl)), .second, .unset, .unset, .unset, .unset, .unset, .unset, .unset, .unset] [(.long (own_hi hh dl))])) := by
        intro t kt
        refine pre68 t ?_
        exact castTop (by rw [own_hi, if_pos hc66]) kt
      exact ⟨Tj57, _, (Stand.mono Xj57 (by decide) (by decide)), Nj57, ej57, pre69⟩
    · have pre70 : own_Go p e below S0 (Tj57.setTop (mkF m 202 #[.val (.long q1), .second, .val (.long q2), .second, .val (.long q3), .second, .val (.long q4), .second, .val (.long q5), .second, .val (.int p6), .val (.long bb), .second, .val (.long dd), .second, .val (.long hh), .second, .val (.long (bb + hh)), .second, .val (.long dl), .second, .val (.long ss), .second, .val (.long h2), .second, .val (.long ee), .second, .val (.long ((bb + hh) + dl)), .second, .val (.long c2), .second, .val (.ref b17), .val (.long (q3 + (own_fd (p6.toInt64) (1000000 : Int64)))), .second, .val (.long (own_rr q3 c2 (p6.toInt64) dl hh h2)), .second, .val (.long (dl / (1000 : Int64))), .second, .val (.long (own_lo hh dl)), .second, .unset, .unset, .unset, .unset, .unset, .unset, .unset, .unset] [(.long ((hh + (dl / (1000 : Int64))) + (1 : Int64)))])) := by
        intro t kt
        refine pre67 t ?_
        refine XS.ifYes Xj57.here hx rfl (pc0 := 187) (pc' := 195) rfl (hb hby at_187) rfl ((if0 _ _).trans (feq (fun q => hc66 ((lw_eq _ _).mp q))).2) (by decide) (by decide) ?_
        show Steps p.tables e below (Tj57.setTop (mkF m 195 #[.val (.long q1), .second, .val (.long q2), .second, .val (.long q3), .second, .val (.long q4), .second, .val (.long q5), .second, .val (.int p6), .val (.long bb), .second, .val (.long dd), .second, .val (.long hh), .second, .val (.long (bb + hh)), .second, .val (.long dl), .second, .val (.long ss), .second, .val (.long h2), .second, .val (.long ee), .second, .val (.long ((bb + hh) + dl)), .second, .val (.long c2), .second, .val (.ref b17), .val (.long (q3 + (own_fd (p6.toInt64) (1000000 : Int64)))), .second, .val (.long (own_rr q3 c2 (p6.toInt64) dl hh h2)), .second, .val (.long (dl / (1000 : Int64))), .second, .val (.long (own_lo hh dl)), .second, .unset, .unset, .unset, .unset, .unset, .unset, .unset, .unset] [])) _
        refine XS.lload Xj57.here hx rfl (hb hby at_195) rfl ?_
        show Steps p.tables e below (Tj57.setTop (mkF m 197 #[.val (.long q1), .second, .val (.long q2), .second, .val (.long q3), .second, .val (.long q4), .second, .val (.long q5), .second, .val (.int p6), .val (.long bb), .second, .val (.long dd), .second, .val (.long hh), .second, .val (.long (bb + hh)), .second, .val (.long dl), .second, .val (.long ss), .second, .val (.long h2), .second, .val (.long ee), .second, .val (.long ((bb + hh) + dl)), .second, .val (.long c2), .second, .val (.ref b17), .val (.long (q3 + (own_fd (p6.toInt64) (1000000 : Int64)))), .second, .val (.long (own_rr q3 c2 (p6.toInt64) dl hh h2)), .second, .val (.long (dl / (1000 : Int64))), .second, .val (.long (own_lo hh dl)), .second, .unset, .unset, .unset, .unset, .unset, .unset, .unset, .unset] [(.long hh)])) _
        refine XS.lload Xj57.here hx rfl (hb hby at_197) rfl ?_
        show Steps p.tables e below (Tj57.setTop (mkF m 199 #[.val (.long q1), .second, .val (.long q2), .second, .val (.long q3), .second, .val (.long q4), .second, .val (.long q5), .second, .val (.int p6), .val (.long bb), .second, .val (.long dd), .second, .val (.long hh), .second, .val (.long (bb + hh)), .second, .val (.long dl), .second, .val (.long ss), .second, .val (.long h2), .second, .val (.long ee), .second, .val (.long ((bb + hh) + dl)), .second, .val (.long c2), .second, .val (.ref b17), .val (.long (q3 + (own_fd (p6.toInt64) (1000000 : Int64)))), .second, .val (.long (own_rr q3 c2 (p6.toInt64) dl hh h2)), .second, .val (.long (dl / (1000 : Int64))), .second, .val (.long (own_lo hh dl)), .second, .unset, .unset, .unset, .unset, .unset, .unset, .unset, .unset] [(.long (dl / (1000 : Int64))), (.long hh)])) _
        refine XS.ladd Xj57.here hx rfl (hb hby at_199) rfl ?_
        show Steps p.tables e below (Tj57.setTop (mkF m 200 #[.val (.long q1), .second, .val (.long q2), .second, .val (.long q3), .second, .val (.long q4), .second, .val (.long q5), .second, .val (.int p6), .val (.long bb), .second, .val (.long dd), .second, .val (.long hh), .second, .val (.long (bb + hh)), .second, .val (.long dl), .second, .val (.long ss), .second, .val (.long h2), .second, .val (.long ee), .second, .val (.long ((bb + hh) + dl)), .second, .val (.long c2), .second, .val (.ref b17), .val (.long (q3 + (own_fd (p6.toInt64) (1000000 : Int64)))), .second, .val (.long (own_rr q3 c2 (p6.toInt64) dl hh h2)), .second, .val (.long (dl / (1000 : Int64))), .second, .val (.long (own_lo hh dl)), .second, .unset, .unset, .unset, .unset, .unset, .unset, .unset, .unset] [(.long (hh + (dl / (1000 : Int64))))])) _
        refine XS.lconst Xj57.here hx rfl (hb hby at_200) ?_
        show Steps p.tables e below (Tj57.setTop (mkF m 201 #[.val (.long q1), .second, .val (.long q2), .second, .val (.long q3), .second, .val (.long q4), .second, .val (.long q5), .second, .val (.int p6), .val (.long bb), .second, .val (.long dd), .second, .val (.long hh), .second, .val (.long (bb + hh)), .second, .val (.long dl), .second, .val (.long ss), .second, .val (.long h2), .second, .val (.long ee), .second, .val (.long ((bb + hh) + dl)), .second, .val (.long c2), .second, .val (.ref b17), .val (.long (q3 + (own_fd (p6.toInt64) (1000000 : Int64)))), .second, .val (.long (own_rr q3 c2 (p6.toInt64) dl hh h2)), .second, .val (.long (dl / (1000 : Int64))), .second, .val (.long (own_lo hh dl)), .second, .unset, .unset, .unset, .unset, .unset, .unset, .unset, .unset] [(.long (1 : Int64)), (.long (hh + (dl / (1000 : Int64))))])) _
        refine XS.ladd Xj57.here hx rfl (hb hby at_201) rfl ?_
        show Steps p.tables e below (Tj57.setTop (mkF m 202 #[.val (.long q1), .second, .val (.long q2), .second, .val (.long q3), .second, .val (.long q4), .second, .val (.long q5), .second, .val (.int p6), .val (.long bb), .second, .val (.long dd), .second, .val (.long hh), .second, .val (.long (bb + hh)), .second, .val (.long dl), .second, .val (.long ss), .second, .val (.long h2), .second, .val (.long ee), .second, .val (.long ((bb + hh) + dl)), .second, .val (.long c2), .second, .val (.ref b17), .val (.long (q3 + (own_fd (p6.toInt64) (1000000 : Int64)))), .second, .val (.long (own_rr q3 c2 (p6.toInt64) dl hh h2)), .second, .val (.long (dl / (1000 : Int64))), .second, .val (.long (own_lo hh dl)), .second, .unset, .unset, .unset, .unset, .unset, .unset, .unset, .unset] [(.long ((hh + (dl / (1000 : Int64))) + (1 : Int64)))])) _
        exact kt
      have pre71 : own_Go p e below S0 (Tj57.setTop (mkF m 202 #[.val (.long q1), .second, .val (.long q2), .second, .val (.long q3), .second, .val (.long q4), .second, .val (.long q5), .second, .val (.int p6), .val (.long bb), .second, .val (.long dd), .second, .val (.long hh), .second, .val (.long (bb + hh)), .second, .val (.long dl), .second, .val (.long ss), .second, .val (.long h2), .second, .val (.long ee), .second, .val (.long ((bb + hh) + dl)), .second, .val (.long c2), .second, .val (.ref b17), .val (.long (q3 + (own_fd (p6.toInt64) (1000000 : Int64)))), .second, .val (.long (own_rr q3 c2 (p6.toInt64) dl hh h2)), .second, .val (.long (dl / (1000 : Int64))), .second, .val (.long (own_lo hh dl)), .second, .unset, .unset, .unset, .unset, .unset, .unset, .unset, .unset] [(.long (own_hi hh dl))])) := by
        intro t kt
        refine pre70 t ?_
        exact castTop (by rw [own_hi, if_neg hc66]) kt
      exact ⟨Tj57, _, (Stand.mono Xj57 (by decide) (by decide)), Nj57, ej57, pre71⟩
  have pre72 : own_Go p e below S0 (Tj65.setTop (mkF m 212 #[.val (.long q1), .second, .val (.long q2), .second, .val (.long q3), .second, .val (.long q4), .second, .val (.long q5), .second, .val (.int p6), .val (.long bb), .second, .val (.long dd), .second, .val (.long hh), .second, .val (.long (bb + hh)), .second, .val (.long dl), .second, .val (.long ss), .second, .val (.long h2), .second, .val (.long ee), .second, .val (.long ((bb + hh) + dl)), .second, .val (.long c2), .second, .val (.ref b17), .val (.long (q3 + (own_fd (p6.toInt64) (1000000 : Int64)))), .second, .val (.long (own_rr q3 c2 (p6.toInt64) dl hh h2)), .second, .val (.long (dl / (1000 : Int64))), .second, .val (.long (own_lo hh dl)), .second, .val (.long (own_hi hh dl)), .second, .unset, .unset, .unset, .unset, .unset, .unset] [(.long ((p6.toInt64) - dl)), (.long c2)])) := by
    intro t kt
    refine prej65 t ?_
    refine XS.lstore Xj65.here hx rfl (hb hby at_202) rfl (l' := #[.val (.long q1), .second, .val (.long q2), .second, .val (.long q3), .second, .val (.long q4), .second, .val (.long q5), .second, .val (.int p6), .val (.long bb), .second, .val (.long dd), .second, .val (.long hh), .second, .val (.long (bb + hh)), .second, .val (.long dl), .second, .val (.long ss), .second, .val (.long h2), .second, .val (.long ee), .second, .val (.long ((bb + hh) + dl)), .second, .val (.long c2), .second, .val (.ref b17), .val (.long (q3 + (own_fd (p6.toInt64) (1000000 : Int64)))), .second, .val (.long (own_rr q3 c2 (p6.toInt64) dl hh h2)), .second, .val (.long (dl / (1000 : Int64))), .second, .val (.long (own_lo hh dl)), .second, .val (.long (own_hi hh dl)), .second, .unset, .unset, .unset, .unset, .unset, .unset]) rfl ?_
    show Steps p.tables e below (Tj65.setTop (mkF m 204 #[.val (.long q1), .second, .val (.long q2), .second, .val (.long q3), .second, .val (.long q4), .second, .val (.long q5), .second, .val (.int p6), .val (.long bb), .second, .val (.long dd), .second, .val (.long hh), .second, .val (.long (bb + hh)), .second, .val (.long dl), .second, .val (.long ss), .second, .val (.long h2), .second, .val (.long ee), .second, .val (.long ((bb + hh) + dl)), .second, .val (.long c2), .second, .val (.ref b17), .val (.long (q3 + (own_fd (p6.toInt64) (1000000 : Int64)))), .second, .val (.long (own_rr q3 c2 (p6.toInt64) dl hh h2)), .second, .val (.long (dl / (1000 : Int64))), .second, .val (.long (own_lo hh dl)), .second, .val (.long (own_hi hh dl)), .second, .unset, .unset, .unset, .unset, .unset, .unset] [])) _
    refine XS.lload Xj65.here hx rfl (hb hby at_204) rfl ?_
    show Steps p.tables e below (Tj65.setTop (mkF m 206 #[.val (.long q1), .second, .val (.long q2), .second, .val (.long q3), .second, .val (.long q4), .second, .val (.long q5), .second, .val (.int p6), .val (.long bb), .second, .val (.long dd), .second, .val (.long hh), .second, .val (.long (bb + hh)), .second, .val (.long dl), .second, .val (.long ss), .second, .val (.long h2), .second, .val (.long ee), .second, .val (.long ((bb + hh) + dl)), .second, .val (.long c2), .second, .val (.ref b17), .val (.long (q3 + (own_fd (p6.toInt64) (1000000 : Int64)))), .second, .val (.long (own_rr q3 c2 (p6.toInt64) dl hh h2)), .second, .val (.long (dl / (1000 : Int64))), .second, .val (.long (own_lo hh dl)), .second, .val (.long (own_hi hh dl)), .second, .unset, .unset, .unset, .unset, .unset, .unset] [(.long c2)])) _
    refine XS.iload Xj65.here hx rfl (hb hby at_206) rfl ?_
    show Steps p.tables e below (Tj65.setTop (mkF m 208 #[.val (.long q1), .second, .val (.long q2), .second, .val (.long q3), .second, .val (.long q4), .second, .val (.long q5), .second, .val (.int p6), .val (.long bb), .second, .val (.long dd), .second, .val (.long hh), .second, .val (.long (bb + hh)), .second, .val (.long dl), .second, .val (.long ss), .second, .val (.long h2), .second, .val (.long ee), .second, .val (.long ((bb + hh) + dl)), .second, .val (.long c2), .second, .val (.ref b17), .val (.long (q3 + (own_fd (p6.toInt64) (1000000 : Int64)))), .second, .val (.long (own_rr q3 c2 (p6.toInt64) dl hh h2)), .second, .val (.long (dl / (1000 : Int64))), .second, .val (.long (own_lo hh dl)), .second, .val (.long (own_hi hh dl)), .second, .unset, .unset, .unset, .unset, .unset, .unset] [(.int p6), (.long c2)])) _
    refine XS.i2l Xj65.here hx rfl (hb hby at_208) rfl ?_
    show Steps p.tables e below (Tj65.setTop (mkF m 209 #[.val (.long q1), .second, .val (.long q2), .second, .val (.long q3), .second, .val (.long q4), .second, .val (.long q5), .second, .val (.int p6), .val (.long bb), .second, .val (.long dd), .second, .val (.long hh), .second, .val (.long (bb + hh)), .second, .val (.long dl), .second, .val (.long ss), .second, .val (.long h2), .second, .val (.long ee), .second, .val (.long ((bb + hh) + dl)), .second, .val (.long c2), .second, .val (.ref b17), .val (.long (q3 + (own_fd (p6.toInt64) (1000000 : Int64)))), .second, .val (.long (own_rr q3 c2 (p6.toInt64) dl hh h2)), .second, .val (.long (dl / (1000 : Int64))), .second, .val (.long (own_lo hh dl)), .second, .val (.long (own_hi hh dl)), .second, .unset, .unset, .unset, .unset, .unset, .unset] [(.long (p6.toInt64)), (.long c2)])) _
    refine XS.lload Xj65.here hx rfl (hb hby at_209) rfl ?_
    show Steps p.tables e below (Tj65.setTop (mkF m 211 #[.val (.long q1), .second, .val (.long q2), .second, .val (.long q3), .second, .val (.long q4), .second, .val (.long q5), .second, .val (.int p6), .val (.long bb), .second, .val (.long dd), .second, .val (.long hh), .second, .val (.long (bb + hh)), .second, .val (.long dl), .second, .val (.long ss), .second, .val (.long h2), .second, .val (.long ee), .second, .val (.long ((bb + hh) + dl)), .second, .val (.long c2), .second, .val (.ref b17), .val (.long (q3 + (own_fd (p6.toInt64) (1000000 : Int64)))), .second, .val (.long (own_rr q3 c2 (p6.toInt64) dl hh h2)), .second, .val (.long (dl / (1000 : Int64))), .second, .val (.long (own_lo hh dl)), .second, .val (.long (own_hi hh dl)), .second, .unset, .unset, .unset, .unset, .unset, .unset] [(.long dl), (.long (p6.toInt64)), (.long c2)])) _
    refine XS.lsub Xj65.here hx rfl (hb hby at_211) rfl ?_
    show Steps p.tables e below (Tj65.setTop (mkF m 212 #[.val (.long q1), .second, .val (.long q2), .second, .val (.long q3), .second, .val (.long q4), .second, .val (.long q5), .second, .val (.int p6), .val (.long bb), .second, .val (.long dd), .second, .val (.long hh), .second, .val (.long (bb + hh)), .second, .val (.long dl), .second, .val (.long ss), .second, .val (.long h2), .second, .val (.long ee), .second, .val (.long ((bb + hh) + dl)), .second, .val (.long c2), .second, .val (.ref b17), .val (.long (q3 + (own_fd (p6.toInt64) (1000000 : Int64)))), .second, .val (.long (own_rr q3 c2 (p6.toInt64) dl hh h2)), .second, .val (.long (dl / (1000 : Int64))), .second, .val (.long (own_lo hh dl)), .second, .val (.long (own_hi hh dl)), .second, .unset, .unset, .unset, .unset, .unset, .unset] [(.long ((p6.toInt64) - dl)), (.long c2)])) _
    exact kt
  obtain ⟨_, _, ⟨T73, L73, k73, n73⟩, -, X73, ⟨Lc73, hQ73, l73, y73, z73⟩, st73⟩ := Jvm.LawKit.callS Xj65 hx (y := (⟨"com/example/backplane/backplane/ClusterClockSamplePinLaw", "fd", "(J)J"⟩ : MethodName)) hown (mvT hZ (hw _ (own_w 73 rfl))) (mvT hZ (hw _ (own_w 74 rfl))) (mvT hZ (hw _ (own_w 75 rfl))) (mvT hZ (hw _ (own_w 76 rfl))) (by decide) (backOf (W := 2) (rm13 l Z a0 hw [] ((p6.toInt64) - dl) T43.heap n0 zs50 ) hZ (hw _ (own_w 76 rfl)) (hw _ (own_w 75 rfl)) (by decide) (by decide)) (g := (mkF m 212 #[.val (.long q1), .second, .val (.long q2), .second, .val (.long q3), .second, .val (.long q4), .second, .val (.long q5), .second, .val (.int p6), .val (.long bb), .second, .val (.long dd), .second, .val (.long hh), .second, .val (.long (bb + hh)), .second, .val (.long dl), .second, .val (.long ss), .second, .val (.long h2), .second, .val (.long ee), .second, .val (.long ((bb + hh) + dl)), .second, .val (.long c2), .second, .val (.ref b17), .val (.long (q3 + (own_fd (p6.toInt64) (1000000 : Int64)))), .second, .val (.long (own_rr q3 c2 (p6.toInt64) dl hh h2)), .second, .val (.long (dl / (1000 : Int64))), .second, .val (.long (own_lo hh dl)), .second, .val (.long (own_hi hh dl)), .second, .unset, .unset, .unset, .unset, .unset, .unset] [(.long ((p6.toInt64) - dl)), (.long c2)])) rfl (by rw [hml]; rfl) (argsL := [(.long ((p6.toInt64) - dl))]) (rest := [(.long c2)]) (lenOf pd_3 rfl) rfl (by show 2 * 0 + _ ≤ _; exact Nat.le_of_eq rfl) (hb hby at_212) (fun _ _ => ⟨rfl, ej65, (by decide : 3 + 0 ≤ _), (by decide : 7 + 0 ≤ _)⟩)
  dsimp only [Pt.U, Pt.locs, Pt.cells, Pt.slots] at X73 l73 y73 z73 st73 hQ73
  subst l73 y73 z73
  obtain ⟨rfl, Nq73, eq73⟩ := hQ73
  have N73 := Fr.app Nj65 Nq73
  have pre74 : own_Go p e below S0 (T73.setTop (mkF m 223 #[.val (.long q1), .second, .val (.long q2), .second, .val (.long q3), .second, .val (.long q4), .second, .val (.long q5), .second, .val (.int p6), .val (.long bb), .second, .val (.long dd), .second, .val (.long hh), .second, .val (.long (bb + hh)), .second, .val (.long dl), .second, .val (.long ss), .second, .val (.long h2), .second, .val (.long ee), .second, .val (.long ((bb + hh) + dl)), .second, .val (.long c2), .second, .val (.ref b17), .val (.long (q3 + (own_fd (p6.toInt64) (1000000 : Int64)))), .second, .val (.long (own_rr q3 c2 (p6.toInt64) dl hh h2)), .second, .val (.long (dl / (1000 : Int64))), .second, .val (.long (own_lo hh dl)), .second, .val (.long (own_hi hh dl)), .second, .val (.long (c2 + (own_f1 ((p6.toInt64) - dl)))), .second, .unset, .unset, .unset, .unset] [(.long (p6.toInt64)), (.long q3)])) := by
    intro t kt
    refine pre72 t ?_
    refine st73 _ ?_
    show Steps p.tables e below (T73.setTop (mkF m 215 #[.val (.long q1), .second, .val (.long q2), .second, .val (.long q3), .second, .val (.long q4), .second, .val (.long q5), .second, .val (.int p6), .val (.long bb), .second, .val (.long dd), .second, .val (.long hh), .second, .val (.long (bb + hh)), .second, .val (.long dl), .second, .val (.long ss), .second, .val (.long h2), .second, .val (.long ee), .second, .val (.long ((bb + hh) + dl)), .second, .val (.long c2), .second, .val (.ref b17), .val (.long (q3 + (own_fd (p6.toInt64) (1000000 : Int64)))), .second, .val (.long (own_rr q3 c2 (p6.toInt64) dl hh h2)), .second, .val (.long (dl / (1000 : Int64))), .second, .val (.long (own_lo hh dl)), .second, .val (.long (own_hi hh dl)), .second, .unset, .unset, .unset, .unset, .unset, .unset] [(.long (own_f1 ((p6.toInt64) - dl))), (.long c2)])) _
    refine XS.ladd X73.here hx rfl (hb hby at_215) rfl ?_
    show Steps p.tables e below (T73.setTop (mkF m 216 #[.val (.long q1), .second, .val (.long q2), .second, .val (.long q3), .second, .val (.long q4), .second, .val (.long q5), .second, .val (.int p6), .val (.long bb), .second, .val (.long dd), .second, .val (.long hh), .second, .val (.long (bb + hh)), .second, .val (.long dl), .second, .val (.long ss), .second, .val (.long h2), .second, .val (.long ee), .second, .val (.long ((bb + hh) + dl)), .second, .val (.long c2), .second, .val (.ref b17), .val (.long (q3 + (own_fd (p6.toInt64) (1000000 : Int64)))), .second, .val (.long (own_rr q3 c2 (p6.toInt64) dl hh h2)), .second, .val (.long (dl / (1000 : Int64))), .second, .val (.long (own_lo hh dl)), .second, .val (.long (own_hi hh dl)), .second, .unset, .unset, .unset, .unset, .unset, .unset] [(.long (c2 + (own_f1 ((p6.toInt64) - dl))))])) _
    refine XS.lstore X73.here hx rfl (hb hby at_216) rfl (l' := #[.val (.long q1), .second, .val (.long q2), .second, .val (.long q3), .second, .val (.long q4), .second, .val (.long q5), .second, .val (.int p6), .val (.long bb), .second, .val (.long dd), .second, .val (.long hh), .second, .val (.long (bb + hh)), .second, .val (.long dl), .second, .val (.long ss), .second, .val (.long h2), .second, .val (.long ee), .second, .val (.long ((bb + hh) + dl)), .second, .val (.long c2), .second, .val (.ref b17), .val (.long (q3 + (own_fd (p6.toInt64) (1000000 : Int64)))), .second, .val (.long (own_rr q3 c2 (p6.toInt64) dl hh h2)), .second, .val (.long (dl / (1000 : Int64))), .second, .val (.long (own_lo hh dl)), .second, .val (.long (own_hi hh dl)), .second, .val (.long (c2 + (own_f1 ((p6.toInt64) - dl)))), .second, .unset, .unset, .unset, .unset]) rfl ?_
    show Steps p.tables e below (T73.setTop (mkF m 218 #[.val (.long q1), .second, .val (.long q2), .second, .val (.long q3), .second, .val (.long q4), .second, .val (.long q5), .second, .val (.int p6), .val (.long bb), .second, .val (.long dd), .second, .val (.long hh), .second, .val (.long (bb + hh)), .second, .val (.long dl), .second, .val (.long ss), .second, .val (.long h2), .second, .val (.long ee), .second, .val (.long ((bb + hh) + dl)), .second, .val (.long c2), .second, .val (.ref b17), .val (.long (q3 + (own_fd (p6.toInt64) (1000000 : Int64)))), .second, .val (.long (own_rr q3 c2 (p6.toInt64) dl hh h2)), .second, .val (.long (dl / (1000 : Int64))), .second, .val (.long (own_lo hh dl)), .second, .val (.long (own_hi hh dl)), .second, .val (.long (c2 + (own_f1 ((p6.toInt64) - dl)))), .second, .unset, .unset, .unset, .unset] [])) _
    refine XS.lload X73.here hx rfl (hb hby at_218) rfl ?_
    show Steps p.tables e below (T73.setTop (mkF m 220 #[.val (.long q1), .second, .val (.long q2), .second, .val (.long q3), .second, .val (.long q4), .second, .val (.long q5), .second, .val (.int p6), .val (.long bb), .second, .val (.long dd), .second, .val (.long hh), .second, .val (.long (bb + hh)), .second, .val (.long dl), .second, .val (.long ss), .second, .val (.long h2), .second, .val (.long ee), .second, .val (.long ((bb + hh) + dl)), .second, .val (.long c2), .second, .val (.ref b17), .val (.long (q3 + (own_fd (p6.toInt64) (1000000 : Int64)))), .second, .val (.long (own_rr q3 c2 (p6.toInt64) dl hh h2)), .second, .val (.long (dl / (1000 : Int64))), .second, .val (.long (own_lo hh dl)), .second, .val (.long (own_hi hh dl)), .second, .val (.long (c2 + (own_f1 ((p6.toInt64) - dl)))), .second, .unset, .unset, .unset, .unset] [(.long q3)])) _
    refine XS.iload X73.here hx rfl (hb hby at_220) rfl ?_
    show Steps p.tables e below (T73.setTop (mkF m 222 #[.val (.long q1), .second, .val (.long q2), .second, .val (.long q3), .second, .val (.long q4), .second, .val (.long q5), .second, .val (.int p6), .val (.long bb), .second, .val (.long dd), .second, .val (.long hh), .second, .val (.long (bb + hh)), .second, .val (.long dl), .second, .val (.long ss), .second, .val (.long h2), .second, .val (.long ee), .second, .val (.long ((bb + hh) + dl)), .second, .val (.long c2), .second, .val (.ref b17), .val (.long (q3 + (own_fd (p6.toInt64) (1000000 : Int64)))), .second, .val (.long (own_rr q3 c2 (p6.toInt64) dl hh h2)), .second, .val (.long (dl / (1000 : Int64))), .second, .val (.long (own_lo hh dl)), .second, .val (.long (own_hi hh dl)), .second, .val (.long (c2 + (own_f1 ((p6.toInt64) - dl)))), .second, .unset, .unset, .unset, .unset] [(.int p6), (.long q3)])) _
    refine XS.i2l X73.here hx rfl (hb hby at_222) rfl ?_
    show Steps p.tables e below (T73.setTop (mkF m 223 #[.val (.long q1), .second, .val (.long q2), .second, .val (.long q3), .second, .val (.long q4), .second, .val (.long q5), .second, .val (.int p6), .val (.long bb), .second, .val (.long dd), .second, .val (.long hh), .second, .val (.long (bb + hh)), .second, .val (.long dl), .second, .val (.long ss), .second, .val (.long h2), .second, .val (.long ee), .second, .val (.long ((bb + hh) + dl)), .second, .val (.long c2), .second, .val (.ref b17), .val (.long (q3 + (own_fd (p6.toInt64) (1000000 : Int64)))), .second, .val (.long (own_rr q3 c2 (p6.toInt64) dl hh h2)), .second, .val (.long (dl / (1000 : Int64))), .second, .val (.long (own_lo hh dl)), .second, .val (.long (own_hi hh dl)), .second, .val (.long (c2 + (own_f1 ((p6.toInt64) - dl)))), .second, .unset, .unset, .unset, .unset] [(.long (p6.toInt64)), (.long q3)])) _
    exact kt
  obtain ⟨_, _, ⟨T75, L75, k75, n75⟩, -, X75, ⟨Lc75, hQ75, l75, y75, z75⟩, st75⟩ := Jvm.LawKit.callS X73 hx (y := (⟨"com/example/backplane/backplane/ClusterClockSamplePinLaw", "fd", "(J)J"⟩ : MethodName)) hown (mvT hZ (hw _ (own_w 73 rfl))) (mvT hZ (hw _ (own_w 74 rfl))) (mvT hZ (hw _ (own_w 75 rfl))) (mvT hZ (hw _ (own_w 76 rfl))) (by decide) (backOf (W := 2) (rm13 l Z a0 hw [] (p6.toInt64) T43.heap n0 zs50 ) hZ (hw _ (own_w 76 rfl)) (hw _ (own_w 75 rfl)) (by decide) (by decide)) (g := (mkF m 223 #[.val (.long q1), .second, .val (.long q2), .second, .val (.long q3), .second, .val (.long q4), .second, .val (.long q5), .second, .val (.int p6), .val (.long bb), .second, .val (.long dd), .second, .val (.long hh), .second, .val (.long (bb + hh)), .second, .val (.long dl), .second, .val (.long ss), .second, .val (.long h2), .second, .val (.long ee), .second, .val (.long ((bb + hh) + dl)), .second, .val (.long c2), .second, .val (.ref b17), .val (.long (q3 + (own_fd (p6.toInt64) (1000000 : Int64)))), .second, .val (.long (own_rr q3 c2 (p6.toInt64) dl hh h2)), .second, .val (.long (dl / (1000 : Int64))), .second, .val (.long (own_lo hh dl)), .second, .val (.long (own_hi hh dl)), .second, .val (.long (c2 + (own_f1 ((p6.toInt64) - dl)))), .second, .unset, .unset, .unset, .unset] [(.long (p6.toInt64)), (.long q3)])) rfl (by rw [hml]; rfl) (argsL := [(.long (p6.toInt64))]) (rest := [(.long q3)]) (lenOf pd_3 rfl) rfl (by show 2 * 0 + _ ≤ _; exact Nat.le_of_eq rfl) (hb hby at_223) (fun _ _ => ⟨rfl, eq73, (by decide : 3 + 0 ≤ _), (by decide : 7 + 0 ≤ _)⟩)
  dsimp only [Pt.U, Pt.locs, Pt.cells, Pt.slots] at X75 l75 y75 z75 st75 hQ75
  subst l75 y75 z75
  obtain ⟨rfl, Nq75, eq75⟩ := hQ75
  have N75 := Fr.app N73 Nq75
  have pre76 : own_Go p e below S0 (T75.setTop (mkF m 236 #[.val (.long q1), .second, .val (.long q2), .second, .val (.long q3), .second, .val (.long q4), .second, .val (.long q5), .second, .val (.int p6), .val (.long bb), .second, .val (.long dd), .second, .val (.long hh), .second, .val (.long (bb + hh)), .second, .val (.long dl), .second, .val (.long ss), .second, .val (.long h2), .second, .val (.long ee), .second, .val (.long ((bb + hh) + dl)), .second, .val (.long c2), .second, .val (.ref b17), .val (.long (q3 + (own_fd (p6.toInt64) (1000000 : Int64)))), .second, .val (.long (own_rr q3 c2 (p6.toInt64) dl hh h2)), .second, .val (.long (dl / (1000 : Int64))), .second, .val (.long (own_lo hh dl)), .second, .val (.long (own_hi hh dl)), .second, .val (.long (c2 + (own_f1 ((p6.toInt64) - dl)))), .second, .val (.long (q3 + (own_f1 (p6.toInt64)))), .second, .unset, .unset] [(.long (p6.toInt64)), (.long q3), (.long (q3 + (own_fd (p6.toInt64) (1000000 : Int64))))])) := by
    intro t kt
    refine pre74 t ?_
    refine st75 _ ?_
    show Steps p.tables e below (T75.setTop (mkF m 226 #[.val (.long q1), .second, .val (.long q2), .second, .val (.long q3), .second, .val (.long q4), .second, .val (.long q5), .second, .val (.int p6), .val (.long bb), .second, .val (.long dd), .second, .val (.long hh), .second, .val (.long (bb + hh)), .second, .val (.long dl), .second, .val (.long ss), .second, .val (.long h2), .second, .val (.long ee), .second, .val (.long ((bb + hh) + dl)), .second, .val (.long c2), .second, .val (.ref b17), .val (.long (q3 + (own_fd (p6.toInt64) (1000000 : Int64)))), .second, .val (.long (own_rr q3 c2 (p6.toInt64) dl hh h2)), .second, .val (.long (dl / (1000 : Int64))), .second, .val (.long (own_lo hh dl)), .second, .val (.long (own_hi hh dl)), .second, .val (.long (c2 + (own_f1 ((p6.toInt64) - dl)))), .second, .unset, .unset, .unset, .unset] [(.long (own_f1 (p6.toInt64))), (.long q3)])) _
    refine XS.ladd X75.here hx rfl (hb hby at_226) rfl ?_
    show Steps p.tables e below (T75.setTop (mkF m 227 #[.val (.long q1), .second, .val (.long q2), .second, .val (.long q3), .second, .val (.long q4), .second, .val (.long q5), .second, .val (.int p6), .val (.long bb), .second, .val (.long dd), .second, .val (.long hh), .second, .val (.long (bb + hh)), .second, .val (.long dl), .second, .val (.long ss), .second, .val (.long h2), .second, .val (.long ee), .second, .val (.long ((bb + hh) + dl)), .second, .val (.long c2), .second, .val (.ref b17), .val (.long (q3 + (own_fd (p6.toInt64) (1000000 : Int64)))), .second, .val (.long (own_rr q3 c2 (p6.toInt64) dl hh h2)), .second, .val (.long (dl / (1000 : Int64))), .second, .val (.long (own_lo hh dl)), .second, .val (.long (own_hi hh dl)), .second, .val (.long (c2 + (own_f1 ((p6.toInt64) - dl)))), .second, .unset, .unset, .unset, .unset] [(.long (q3 + (own_f1 (p6.toInt64))))])) _
    refine XS.lstore X75.here hx rfl (hb hby at_227) rfl (l' := #[.val (.long q1), .second, .val (.long q2), .second, .val (.long q3), .second, .val (.long q4), .second, .val (.long q5), .second, .val (.int p6), .val (.long bb), .second, .val (.long dd), .second, .val (.long hh), .second, .val (.long (bb + hh)), .second, .val (.long dl), .second, .val (.long ss), .second, .val (.long h2), .second, .val (.long ee), .second, .val (.long ((bb + hh) + dl)), .second, .val (.long c2), .second, .val (.ref b17), .val (.long (q3 + (own_fd (p6.toInt64) (1000000 : Int64)))), .second, .val (.long (own_rr q3 c2 (p6.toInt64) dl hh h2)), .second, .val (.long (dl / (1000 : Int64))), .second, .val (.long (own_lo hh dl)), .second, .val (.long (own_hi hh dl)), .second, .val (.long (c2 + (own_f1 ((p6.toInt64) - dl)))), .second, .val (.long (q3 + (own_f1 (p6.toInt64)))), .second, .unset, .unset]) rfl ?_
    show Steps p.tables e below (T75.setTop (mkF m 229 #[.val (.long q1), .second, .val (.long q2), .second, .val (.long q3), .second, .val (.long q4), .second, .val (.long q5), .second, .val (.int p6), .val (.long bb), .second, .val (.long dd), .second, .val (.long hh), .second, .val (.long (bb + hh)), .second, .val (.long dl), .second, .val (.long ss), .second, .val (.long h2), .second, .val (.long ee), .second, .val (.long ((bb + hh) + dl)), .second, .val (.long c2), .second, .val (.ref b17), .val (.long (q3 + (own_fd (p6.toInt64) (1000000 : Int64)))), .second, .val (.long (own_rr q3 c2 (p6.toInt64) dl hh h2)), .second, .val (.long (dl / (1000 : Int64))), .second, .val (.long (own_lo hh dl)), .second, .val (.long (own_hi hh dl)), .second, .val (.long (c2 + (own_f1 ((p6.toInt64) - dl)))), .second, .val (.long (q3 + (own_f1 (p6.toInt64)))), .second, .unset, .unset] [])) _
    refine XS.lload X75.here hx rfl (hb hby at_229) rfl ?_
    show Steps p.tables e below (T75.setTop (mkF m 231 #[.val (.long q1), .second, .val (.long q2), .second, .val (.long q3), .second, .val (.long q4), .second, .val (.long q5), .second, .val (.int p6), .val (.long bb), .second, .val (.long dd), .second, .val (.long hh), .second, .val (.long (bb + hh)), .second, .val (.long dl), .second, .val (.long ss), .second, .val (.long h2), .second, .val (.long ee), .second, .val (.long ((bb + hh) + dl)), .second, .val (.long c2), .second, .val (.ref b17), .val (.long (q3 + (own_fd (p6.toInt64) (1000000 : Int64)))), .second, .val (.long (own_rr q3 c2 (p6.toInt64) dl hh h2)), .second, .val (.long (dl / (1000 : Int64))), .second, .val (.long (own_lo hh dl)), .second, .val (.long (own_hi hh dl)), .second, .val (.long (c2 + (own_f1 ((p6.toInt64) - dl)))), .second, .val (.long (q3 + (own_f1 (p6.toInt64)))), .second, .unset, .unset] [(.long (q3 + (own_fd (p6.toInt64) (1000000 : Int64))))])) _
    refine XS.lload X75.here hx rfl (hb hby at_231) rfl ?_
    show Steps p.tables e below (T75.setTop (mkF m 233 #[.val (.long q1), .second, .val (.long q2), .second, .val (.long q3), .second, .val (.long q4), .second, .val (.long q5), .second, .val (.int p6), .val (.long bb), .second, .val (.long dd), .second, .val (.long hh), .second, .val (.long (bb + hh)), .second, .val (.long dl), .second, .val (.long ss), .second, .val (.long h2), .second, .val (.long ee), .second, .val (.long ((bb + hh) + dl)), .second, .val (.long c2), .second, .val (.ref b17), .val (.long (q3 + (own_fd (p6.toInt64) (1000000 : Int64)))), .second, .val (.long (own_rr q3 c2 (p6.toInt64) dl hh h2)), .second, .val (.long (dl / (1000 : Int64))), .second, .val (.long (own_lo hh dl)), .second, .val (.long (own_hi hh dl)), .second, .val (.long (c2 + (own_f1 ((p6.toInt64) - dl)))), .second, .val (.long (q3 + (own_f1 (p6.toInt64)))), .second, .unset, .unset] [(.long q3), (.long (q3 + (own_fd (p6.toInt64) (1000000 : Int64))))])) _
    refine XS.iload X75.here hx rfl (hb hby at_233) rfl ?_
    show Steps p.tables e below (T75.setTop (mkF m 235 #[.val (.long q1), .second, .val (.long q2), .second, .val (.long q3), .second, .val (.long q4), .second, .val (.long q5), .second, .val (.int p6), .val (.long bb), .second, .val (.long dd), .second, .val (.long hh), .second, .val (.long (bb + hh)), .second, .val (.long dl), .second, .val (.long ss), .second, .val (.long h2), .second, .val (.long ee), .second, .val (.long ((bb + hh) + dl)), .second, .val (.long c2), .second, .val (.ref b17), .val (.long (q3 + (own_fd (p6.toInt64) (1000000 : Int64)))), .second, .val (.long (own_rr q3 c2 (p6.toInt64) dl hh h2)), .second, .val (.long (dl / (1000 : Int64))), .second, .val (.long (own_lo hh dl)), .second, .val (.long (own_hi hh dl)), .second, .val (.long (c2 + (own_f1 ((p6.toInt64) - dl)))), .second, .val (.long (q3 + (own_f1 (p6.toInt64)))), .second, .unset, .unset] [(.int p6), (.long q3), (.long (q3 + (own_fd (p6.toInt64) (1000000 : Int64))))])) _
    refine XS.i2l X75.here hx rfl (hb hby at_235) rfl ?_
    show Steps p.tables e below (T75.setTop (mkF m 236 #[.val (.long q1), .second, .val (.long q2), .second, .val (.long q3), .second, .val (.long q4), .second, .val (.long q5), .second, .val (.int p6), .val (.long bb), .second, .val (.long dd), .second, .val (.long hh), .second, .val (.long (bb + hh)), .second, .val (.long dl), .second, .val (.long ss), .second, .val (.long h2), .second, .val (.long ee), .second, .val (.long ((bb + hh) + dl)), .second, .val (.long c2), .second, .val (.ref b17), .val (.long (q3 + (own_fd (p6.toInt64) (1000000 : Int64)))), .second, .val (.long (own_rr q3 c2 (p6.toInt64) dl hh h2)), .second, .val (.long (dl / (1000 : Int64))), .second, .val (.long (own_lo hh dl)), .second, .val (.long (own_hi hh dl)), .second, .val (.long (c2 + (own_f1 ((p6.toInt64) - dl)))), .second, .val (.long (q3 + (own_f1 (p6.toInt64)))), .second, .unset, .unset] [(.long (p6.toInt64)), (.long q3), (.long (q3 + (own_fd (p6.toInt64) (1000000 : Int64))))])) _
    exact kt
  obtain ⟨_, _, ⟨T77, L77, k77, n77⟩, -, X77, ⟨Lc77, hQ77, l77, y77, z77⟩, st77⟩ := Jvm.LawKit.callS X75 hx (y := (⟨"com/example/backplane/backplane/ClusterClockSamplePinLaw", "fd", "(J)J"⟩ : MethodName)) hown (mvT hZ (hw _ (own_w 73 rfl))) (mvT hZ (hw _ (own_w 74 rfl))) (mvT hZ (hw _ (own_w 75 rfl))) (mvT hZ (hw _ (own_w 76 rfl))) (by decide) (backOf (W := 4) (rm13 l Z a0 hw [] (p6.toInt64) T43.heap n0 zs50 ) hZ (hw _ (own_w 76 rfl)) (hw _ (own_w 75 rfl)) (by decide) (by decide)) (g := (mkF m 236 #[.val (.long q1), .second, .val (.long q2), .second, .val (.long q3), .second, .val (.long q4), .second, .val (.long q5), .second, .val (.int p6), .val (.long bb), .second, .val (.long dd), .second, .val (.long hh), .second, .val (.long (bb + hh)), .second, .val (.long dl), .second, .val (.long ss), .second, .val (.long h2), .second, .val (.long ee), .second, .val (.long ((bb + hh) + dl)), .second, .val (.long c2), .second, .val (.ref b17), .val (.long (q3 + (own_fd (p6.toInt64) (1000000 : Int64)))), .second, .val (.long (own_rr q3 c2 (p6.toInt64) dl hh h2)), .second, .val (.long (dl / (1000 : Int64))), .second, .val (.long (own_lo hh dl)), .second, .val (.long (own_hi hh dl)), .second, .val (.long (c2 + (own_f1 ((p6.toInt64) - dl)))), .second, .val (.long (q3 + (own_f1 (p6.toInt64)))), .second, .unset, .unset] [(.long (p6.toInt64)), (.long q3), (.long (q3 + (own_fd (p6.toInt64) (1000000 : Int64))))])) rfl (by rw [hml]; rfl) (argsL := [(.long (p6.toInt64))]) (rest := [(.long q3), (.long (q3 + (own_fd (p6.toInt64) (1000000 : Int64))))]) (lenOf pd_3 rfl) rfl (by show 2 * 0 + _ ≤ _; exact Nat.le_of_eq rfl) (hb hby at_236) (fun _ _ => ⟨rfl, eq75, (by decide : 3 + 0 ≤ _), (by decide : 7 + 0 ≤ _)⟩)
  dsimp only [Pt.U, Pt.locs, Pt.cells, Pt.slots] at X77 l77 y77 z77 st77 hQ77
  subst l77 y77 z77
  obtain ⟨rfl, Nq77, eq77⟩ := hQ77
  have N77 := Fr.app N75 Nq77
  have pre79 : own_Go p e below S0 (T77.setTop (mkF m 256 #[.val (.long q1), .second, .val (.long q2), .second, .val (.long q3), .second, .val (.long q4), .second, .val (.long q5), .second, .val (.int p6), .val (.long bb), .second, .val (.long dd), .second, .val (.long hh), .second, .val (.long (bb + hh)), .second, .val (.long dl), .second, .val (.long ss), .second, .val (.long h2), .second, .val (.long ee), .second, .val (.long ((bb + hh) + dl)), .second, .val (.long c2), .second, .val (.ref b17), .val (.long (q3 + (own_fd (p6.toInt64) (1000000 : Int64)))), .second, .val (.long (own_rr q3 c2 (p6.toInt64) dl hh h2)), .second, .val (.long (dl / (1000 : Int64))), .second, .val (.long (own_lo hh dl)), .second, .val (.long (own_hi hh dl)), .second, .val (.long (c2 + (own_f1 ((p6.toInt64) - dl)))), .second, .val (.long (q3 + (own_f1 (p6.toInt64)))), .second, .val (.int (1 : Int32)), .unset] [(.int (lcmpW h2 (own_lo hh dl)))])) := by
    intro t kt
    refine pre76 t ?_
    refine st77 _ ?_
    show Steps p.tables e below (T77.setTop (mkF m 239 #[.val (.long q1), .second, .val (.long q2), .second, .val (.long q3), .second, .val (.long q4), .second, .val (.long q5), .second, .val (.int p6), .val (.long bb), .second, .val (.long dd), .second, .val (.long hh), .second, .val (.long (bb + hh)), .second, .val (.long dl), .second, .val (.long ss), .second, .val (.long h2), .second, .val (.long ee), .second, .val (.long ((bb + hh) + dl)), .second, .val (.long c2), .second, .val (.ref b17), .val (.long (q3 + (own_fd (p6.toInt64) (1000000 : Int64)))), .second, .val (.long (own_rr q3 c2 (p6.toInt64) dl hh h2)), .second, .val (.long (dl / (1000 : Int64))), .second, .val (.long (own_lo hh dl)), .second, .val (.long (own_hi hh dl)), .second, .val (.long (c2 + (own_f1 ((p6.toInt64) - dl)))), .second, .val (.long (q3 + (own_f1 (p6.toInt64)))), .second, .unset, .unset] [(.long (own_f1 (p6.toInt64))), (.long q3), (.long (q3 + (own_fd (p6.toInt64) (1000000 : Int64))))])) _
    refine XS.ladd X77.here hx rfl (hb hby at_239) rfl ?_
    show Steps p.tables e below (T77.setTop (mkF m 240 #[.val (.long q1), .second, .val (.long q2), .second, .val (.long q3), .second, .val (.long q4), .second, .val (.long q5), .second, .val (.int p6), .val (.long bb), .second, .val (.long dd), .second, .val (.long hh), .second, .val (.long (bb + hh)), .second, .val (.long dl), .second, .val (.long ss), .second, .val (.long h2), .second, .val (.long ee), .second, .val (.long ((bb + hh) + dl)), .second, .val (.long c2), .second, .val (.ref b17), .val (.long (q3 + (own_fd (p6.toInt64) (1000000 : Int64)))), .second, .val (.long (own_rr q3 c2 (p6.toInt64) dl hh h2)), .second, .val (.long (dl / (1000 : Int64))), .second, .val (.long (own_lo hh dl)), .second, .val (.long (own_hi hh dl)), .second, .val (.long (c2 + (own_f1 ((p6.toInt64) - dl)))), .second, .val (.long (q3 + (own_f1 (p6.toInt64)))), .second, .unset, .unset] [(.long (q3 + (own_f1 (p6.toInt64)))), (.long (q3 + (own_fd (p6.toInt64) (1000000 : Int64))))])) _
    refine XS.lcmp X77.here hx rfl (hb hby at_240) rfl ?_
    show Steps p.tables e below (T77.setTop (mkF m 241 #[.val (.long q1), .second, .val (.long q2), .second, .val (.long q3), .second, .val (.long q4), .second, .val (.long q5), .second, .val (.int p6), .val (.long bb), .second, .val (.long dd), .second, .val (.long hh), .second, .val (.long (bb + hh)), .second, .val (.long dl), .second, .val (.long ss), .second, .val (.long h2), .second, .val (.long ee), .second, .val (.long ((bb + hh) + dl)), .second, .val (.long c2), .second, .val (.ref b17), .val (.long (q3 + (own_fd (p6.toInt64) (1000000 : Int64)))), .second, .val (.long (own_rr q3 c2 (p6.toInt64) dl hh h2)), .second, .val (.long (dl / (1000 : Int64))), .second, .val (.long (own_lo hh dl)), .second, .val (.long (own_hi hh dl)), .second, .val (.long (c2 + (own_f1 ((p6.toInt64) - dl)))), .second, .val (.long (q3 + (own_f1 (p6.toInt64)))), .second, .unset, .unset] [(.int (lcmpW (q3 + (own_fd (p6.toInt64) (1000000 : Int64))) (q3 + (own_f1 (p6.toInt64)))))])) _
    refine XS.ifNo X77.here hx rfl (hb hby at_241) rfl ((if0 _ _).trans (teq ((lw_eq _ _).mpr (by rw [own_fE]))).2) ?_
    show Steps p.tables e below (T77.setTop (mkF m 244 #[.val (.long q1), .second, .val (.long q2), .second, .val (.long q3), .second, .val (.long q4), .second, .val (.long q5), .second, .val (.int p6), .val (.long bb), .second, .val (.long dd), .second, .val (.long hh), .second, .val (.long (bb + hh)), .second, .val (.long dl), .second, .val (.long ss), .second, .val (.long h2), .second, .val (.long ee), .second, .val (.long ((bb + hh) + dl)), .second, .val (.long c2), .second, .val (.ref b17), .val (.long (q3 + (own_fd (p6.toInt64) (1000000 : Int64)))), .second, .val (.long (own_rr q3 c2 (p6.toInt64) dl hh h2)), .second, .val (.long (dl / (1000 : Int64))), .second, .val (.long (own_lo hh dl)), .second, .val (.long (own_hi hh dl)), .second, .val (.long (c2 + (own_f1 ((p6.toInt64) - dl)))), .second, .val (.long (q3 + (own_f1 (p6.toInt64)))), .second, .unset, .unset] [])) _
    refine XS.iconst X77.here hx rfl (hb hby at_244) ?_
    show Steps p.tables e below (T77.setTop (mkF m 245 #[.val (.long q1), .second, .val (.long q2), .second, .val (.long q3), .second, .val (.long q4), .second, .val (.long q5), .second, .val (.int p6), .val (.long bb), .second, .val (.long dd), .second, .val (.long hh), .second, .val (.long (bb + hh)), .second, .val (.long dl), .second, .val (.long ss), .second, .val (.long h2), .second, .val (.long ee), .second, .val (.long ((bb + hh) + dl)), .second, .val (.long c2), .second, .val (.ref b17), .val (.long (q3 + (own_fd (p6.toInt64) (1000000 : Int64)))), .second, .val (.long (own_rr q3 c2 (p6.toInt64) dl hh h2)), .second, .val (.long (dl / (1000 : Int64))), .second, .val (.long (own_lo hh dl)), .second, .val (.long (own_hi hh dl)), .second, .val (.long (c2 + (own_f1 ((p6.toInt64) - dl)))), .second, .val (.long (q3 + (own_f1 (p6.toInt64)))), .second, .unset, .unset] [(.int (1 : Int32))])) _
    refine XS.goto X77.here hx rfl (pc0 := 245) (pc' := 249) rfl (hb hby at_245) (by decide) (by decide) ?_
    show Steps p.tables e below (T77.setTop (mkF m 249 #[.val (.long q1), .second, .val (.long q2), .second, .val (.long q3), .second, .val (.long q4), .second, .val (.long q5), .second, .val (.int p6), .val (.long bb), .second, .val (.long dd), .second, .val (.long hh), .second, .val (.long (bb + hh)), .second, .val (.long dl), .second, .val (.long ss), .second, .val (.long h2), .second, .val (.long ee), .second, .val (.long ((bb + hh) + dl)), .second, .val (.long c2), .second, .val (.ref b17), .val (.long (q3 + (own_fd (p6.toInt64) (1000000 : Int64)))), .second, .val (.long (own_rr q3 c2 (p6.toInt64) dl hh h2)), .second, .val (.long (dl / (1000 : Int64))), .second, .val (.long (own_lo hh dl)), .second, .val (.long (own_hi hh dl)), .second, .val (.long (c2 + (own_f1 ((p6.toInt64) - dl)))), .second, .val (.long (q3 + (own_f1 (p6.toInt64)))), .second, .unset, .unset] [(.int (1 : Int32))])) _
    refine XS.istore X77.here hx rfl (hb hby at_249) rfl (l' := #[.val (.long q1), .second, .val (.long q2), .second, .val (.long q3), .second, .val (.long q4), .second, .val (.long q5), .second, .val (.int p6), .val (.long bb), .second, .val (.long dd), .second, .val (.long hh), .second, .val (.long (bb + hh)), .second, .val (.long dl), .second, .val (.long ss), .second, .val (.long h2), .second, .val (.long ee), .second, .val (.long ((bb + hh) + dl)), .second, .val (.long c2), .second, .val (.ref b17), .val (.long (q3 + (own_fd (p6.toInt64) (1000000 : Int64)))), .second, .val (.long (own_rr q3 c2 (p6.toInt64) dl hh h2)), .second, .val (.long (dl / (1000 : Int64))), .second, .val (.long (own_lo hh dl)), .second, .val (.long (own_hi hh dl)), .second, .val (.long (c2 + (own_f1 ((p6.toInt64) - dl)))), .second, .val (.long (q3 + (own_f1 (p6.toInt64)))), .second, .val (.int (1 : Int32)), .unset]) rfl ?_
    show Steps p.tables e below (T77.setTop (mkF m 251 #[.val (.long q1), .second, .val (.long q2), .second, .val (.long q3), .second, .val (.long q4), .second, .val (.long q5), .second, .val (.int p6), .val (.long bb), .second, .val (.long dd), .second, .val (.long hh), .second, .val (.long (bb + hh)), .second, .val (.long dl), .second, .val (.long ss), .second, .val (.long h2), .second, .val (.long ee), .second, .val (.long ((bb + hh) + dl)), .second, .val (.long c2), .second, .val (.ref b17), .val (.long (q3 + (own_fd (p6.toInt64) (1000000 : Int64)))), .second, .val (.long (own_rr q3 c2 (p6.toInt64) dl hh h2)), .second, .val (.long (dl / (1000 : Int64))), .second, .val (.long (own_lo hh dl)), .second, .val (.long (own_hi hh dl)), .second, .val (.long (c2 + (own_f1 ((p6.toInt64) - dl)))), .second, .val (.long (q3 + (own_f1 (p6.toInt64)))), .second, .val (.int (1 : Int32)), .unset] [])) _
    refine XS.lload X77.here hx rfl (hb hby at_251) rfl ?_
    show Steps p.tables e below (T77.setTop (mkF m 253 #[.val (.long q1), .second, .val (.long q2), .second, .val (.long q3), .second, .val (.long q4), .second, .val (.long q5), .second, .val (.int p6), .val (.long bb), .second, .val (.long dd), .second, .val (.long hh), .second, .val (.long (bb + hh)), .second, .val (.long dl), .second, .val (.long ss), .second, .val (.long h2), .second, .val (.long ee), .second, .val (.long ((bb + hh) + dl)), .second, .val (.long c2), .second, .val (.ref b17), .val (.long (q3 + (own_fd (p6.toInt64) (1000000 : Int64)))), .second, .val (.long (own_rr q3 c2 (p6.toInt64) dl hh h2)), .second, .val (.long (dl / (1000 : Int64))), .second, .val (.long (own_lo hh dl)), .second, .val (.long (own_hi hh dl)), .second, .val (.long (c2 + (own_f1 ((p6.toInt64) - dl)))), .second, .val (.long (q3 + (own_f1 (p6.toInt64)))), .second, .val (.int (1 : Int32)), .unset] [(.long h2)])) _
    refine XS.lload X77.here hx rfl (hb hby at_253) rfl ?_
    show Steps p.tables e below (T77.setTop (mkF m 255 #[.val (.long q1), .second, .val (.long q2), .second, .val (.long q3), .second, .val (.long q4), .second, .val (.long q5), .second, .val (.int p6), .val (.long bb), .second, .val (.long dd), .second, .val (.long hh), .second, .val (.long (bb + hh)), .second, .val (.long dl), .second, .val (.long ss), .second, .val (.long h2), .second, .val (.long ee), .second, .val (.long ((bb + hh) + dl)), .second, .val (.long c2), .second, .val (.ref b17), .val (.long (q3 + (own_fd (p6.toInt64) (1000000 : Int64)))), .second, .val (.long (own_rr q3 c2 (p6.toInt64) dl hh h2)), .second, .val (.long (dl / (1000 : Int64))), .second, .val (.long (own_lo hh dl)), .second, .val (.long (own_hi hh dl)), .second, .val (.long (c2 + (own_f1 ((p6.toInt64) - dl)))), .second, .val (.long (q3 + (own_f1 (p6.toInt64)))), .second, .val (.int (1 : Int32)), .unset] [(.long (own_lo hh dl)), (.long h2)])) _
    refine XS.lcmp X77.here hx rfl (hb hby at_255) rfl ?_
    show Steps p.tables e below (T77.setTop (mkF m 256 #[.val (.long q1), .second, .val (.long q2), .second, .val (.long q3), .second, .val (.long q4), .second, .val (.long q5), .second, .val (.int p6), .val (.long bb), .second, .val (.long dd), .second, .val (.long hh), .second, .val (.long (bb + hh)), .second, .val (.long dl), .second, .val (.long ss), .second, .val (.long h2), .second, .val (.long ee), .second, .val (.long ((bb + hh) + dl)), .second, .val (.long c2), .second, .val (.ref b17), .val (.long (q3 + (own_fd (p6.toInt64) (1000000 : Int64)))), .second, .val (.long (own_rr q3 c2 (p6.toInt64) dl hh h2)), .second, .val (.long (dl / (1000 : Int64))), .second, .val (.long (own_lo hh dl)), .second, .val (.long (own_hi hh dl)), .second, .val (.long (c2 + (own_f1 ((p6.toInt64) - dl)))), .second, .val (.long (q3 + (own_f1 (p6.toInt64)))), .second, .val (.int (1 : Int32)), .unset] [(.int (lcmpW h2 (own_lo hh dl)))])) _
    exact kt
  by_cases hc78 : (own_lo hh dl) < h2
  · have pre81 : own_Go p e below S0 (T77.setTop (mkF m 282 #[.val (.long q1), .second, .val (.long q2), .second, .val (.long q3), .second, .val (.long q4), .second, .val (.long q5), .second, .val (.int p6), .val (.long bb), .second, .val (.long dd), .second, .val (.long hh), .second, .val (.long (bb + hh)), .second, .val (.long dl), .second, .val (.long ss), .second, .val (.long h2), .second, .val (.long ee), .second, .val (.long ((bb + hh) + dl)), .second, .val (.long c2), .second, .val (.ref b17), .val (.long (q3 + (own_fd (p6.toInt64) (1000000 : Int64)))), .second, .val (.long (own_rr q3 c2 (p6.toInt64) dl hh h2)), .second, .val (.long (dl / (1000 : Int64))), .second, .val (.long (own_lo hh dl)), .second, .val (.long (own_hi hh dl)), .second, .val (.long (c2 + (own_f1 ((p6.toInt64) - dl)))), .second, .val (.long (q3 + (own_f1 (p6.toInt64)))), .second, .val (.int (1 : Int32)), .unset] [(.int (lcmpW h2 (own_hi hh dl)))])) := by
      intro t kt
      refine pre79 t ?_
      refine XS.ifYes X77.here hx rfl (pc0 := 256) (pc' := 277) rfl (hb hby at_256) rfl ((if0 _ _).trans (tlt ((lw_gt _ _).mpr hc78)).2.2.1) (by decide) (by decide) ?_
      show Steps p.tables e below (T77.setTop (mkF m 277 #[.val (.long q1), .second, .val (.long q2), .second, .val (.long q3), .second, .val (.long q4), .second, .val (.long q5), .second, .val (.int p6), .val (.long bb), .second, .val (.long dd), .second, .val (.long hh), .second, .val (.long (bb + hh)), .second, .val (.long dl), .second, .val (.long ss), .second, .val (.long h2), .second, .val (.long ee), .second, .val (.long ((bb + hh) + dl)), .second, .val (.long c2), .second, .val (.ref b17), .val (.long (q3 + (own_fd (p6.toInt64) (1000000 : Int64)))), .second, .val (.long (own_rr q3 c2 (p6.toInt64) dl hh h2)), .second, .val (.long (dl / (1000 : Int64))), .second, .val (.long (own_lo hh dl)), .second, .val (.long (own_hi hh dl)), .second, .val (.long (c2 + (own_f1 ((p6.toInt64) - dl)))), .second, .val (.long (q3 + (own_f1 (p6.toInt64)))), .second, .val (.int (1 : Int32)), .unset] [])) _
      refine XS.lload X77.here hx rfl (hb hby at_277) rfl ?_
      show Steps p.tables e below (T77.setTop (mkF m 279 #[.val (.long q1), .second, .val (.long q2), .second, .val (.long q3), .second, .val (.long q4), .second, .val (.long q5), .second, .val (.int p6), .val (.long bb), .second, .val (.long dd), .second, .val (.long hh), .second, .val (.long (bb + hh)), .second, .val (.long dl), .second, .val (.long ss), .second, .val (.long h2), .second, .val (.long ee), .second, .val (.long ((bb + hh) + dl)), .second, .val (.long c2), .second, .val (.ref b17), .val (.long (q3 + (own_fd (p6.toInt64) (1000000 : Int64)))), .second, .val (.long (own_rr q3 c2 (p6.toInt64) dl hh h2)), .second, .val (.long (dl / (1000 : Int64))), .second, .val (.long (own_lo hh dl)), .second, .val (.long (own_hi hh dl)), .second, .val (.long (c2 + (own_f1 ((p6.toInt64) - dl)))), .second, .val (.long (q3 + (own_f1 (p6.toInt64)))), .second, .val (.int (1 : Int32)), .unset] [(.long h2)])) _
      refine XS.lload X77.here hx rfl (hb hby at_279) rfl ?_
      show Steps p.tables e below (T77.setTop (mkF m 281 #[.val (.long q1), .second, .val (.long q2), .second, .val (.long q3), .second, .val (.long q4), .second, .val (.long q5), .second, .val (.int p6), .val (.long bb), .second, .val (.long dd), .second, .val (.long hh), .second, .val (.long (bb + hh)), .second, .val (.long dl), .second, .val (.long ss), .second, .val (.long h2), .second, .val (.long ee), .second, .val (.long ((bb + hh) + dl)), .second, .val (.long c2), .second, .val (.ref b17), .val (.long (q3 + (own_fd (p6.toInt64) (1000000 : Int64)))), .second, .val (.long (own_rr q3 c2 (p6.toInt64) dl hh h2)), .second, .val (.long (dl / (1000 : Int64))), .second, .val (.long (own_lo hh dl)), .second, .val (.long (own_hi hh dl)), .second, .val (.long (c2 + (own_f1 ((p6.toInt64) - dl)))), .second, .val (.long (q3 + (own_f1 (p6.toInt64)))), .second, .val (.int (1 : Int32)), .unset] [(.long (own_hi hh dl)), (.long h2)])) _
      refine XS.lcmp X77.here hx rfl (hb hby at_281) rfl ?_
      show Steps p.tables e below (T77.setTop (mkF m 282 #[.val (.long q1), .second, .val (.long q2), .second, .val (.long q3), .second, .val (.long q4), .second, .val (.long q5), .second, .val (.int p6), .val (.long bb), .second, .val (.long dd), .second, .val (.long hh), .second, .val (.long (bb + hh)), .second, .val (.long dl), .second, .val (.long ss), .second, .val (.long h2), .second, .val (.long ee), .second, .val (.long ((bb + hh) + dl)), .second, .val (.long c2), .second, .val (.ref b17), .val (.long (q3 + (own_fd (p6.toInt64) (1000000 : Int64)))), .second, .val (.long (own_rr q3 c2 (p6.toInt64) dl hh h2)), .second, .val (.long (dl / (1000 : Int64))), .second, .val (.long (own_lo hh dl)), .second, .val (.long (own_hi hh dl)), .second, .val (.long (c2 + (own_f1 ((p6.toInt64) - dl)))), .second, .val (.long (q3 + (own_f1 (p6.toInt64)))), .second, .val (.int (1 : Int32)), .unset] [(.int (lcmpW h2 (own_hi hh dl)))])) _
      exact kt
    by_cases hc80 : (own_hi hh dl) < h2
    · have pre82 : own_Go p e below S0 (T77.setTop (mkF m 341 #[.val (.long q1), .second, .val (.long q2), .second, .val (.long q3), .second, .val (.long q4), .second, .val (.long q5), .second, .val (.int p6), .val (.long bb), .second, .val (.long dd), .second, .val (.long hh), .second, .val (.long (bb + hh)), .second, .val (.long dl), .second, .val (.long ss), .second, .val (.long h2), .second, .val (.long ee), .second, .val (.long ((bb + hh) + dl)), .second, .val (.long c2), .second, .val (.ref b17), .val (.long (q3 + (own_fd (p6.toInt64) (1000000 : Int64)))), .second, .val (.long (own_rr q3 c2 (p6.toInt64) dl hh h2)), .second, .val (.long (dl / (1000 : Int64))), .second, .val (.long (own_lo hh dl)), .second, .val (.long (own_hi hh dl)), .second, .val (.long (c2 + (own_f1 ((p6.toInt64) - dl)))), .second, .val (.long (q3 + (own_f1 (p6.toInt64)))), .second, .val (.int (1 : Int32)), .val (.int (1 : Int32))] [(.int (1 : Int32))])) := by
        intro t kt
        refine pre81 t ?_
        refine XS.ifNo X77.here hx rfl (hb hby at_282) rfl ((if0 _ _).trans (tlt ((lw_gt _ _).mpr hc80)).2.2.2) ?_
        show Steps p.tables e below (T77.setTop (mkF m 285 #[.val (.long q1), .second, .val (.long q2), .second, .val (.long q3), .second, .val (.long q4), .second, .val (.long q5), .second, .val (.int p6), .val (.long bb), .second, .val (.long dd), .second, .val (.long hh), .second, .val (.long (bb + hh)), .second, .val (.long dl), .second, .val (.long ss), .second, .val (.long h2), .second, .val (.long ee), .second, .val (.long ((bb + hh) + dl)), .second, .val (.long c2), .second, .val (.ref b17), .val (.long (q3 + (own_fd (p6.toInt64) (1000000 : Int64)))), .second, .val (.long (own_rr q3 c2 (p6.toInt64) dl hh h2)), .second, .val (.long (dl / (1000 : Int64))), .second, .val (.long (own_lo hh dl)), .second, .val (.long (own_hi hh dl)), .second, .val (.long (c2 + (own_f1 ((p6.toInt64) - dl)))), .second, .val (.long (q3 + (own_f1 (p6.toInt64)))), .second, .val (.int (1 : Int32)), .unset] [])) _
        refine XS.lload X77.here hx rfl (hb hby at_285) rfl ?_
        show Steps p.tables e below (T77.setTop (mkF m 287 #[.val (.long q1), .second, .val (.long q2), .second, .val (.long q3), .second, .val (.long q4), .second, .val (.long q5), .second, .val (.int p6), .val (.long bb), .second, .val (.long dd), .second, .val (.long hh), .second, .val (.long (bb + hh)), .second, .val (.long dl), .second, .val (.long ss), .second, .val (.long h2), .second, .val (.long ee), .second, .val (.long ((bb + hh) + dl)), .second, .val (.long c2), .second, .val (.ref b17), .val (.long (q3 + (own_fd (p6.toInt64) (1000000 : Int64)))), .second, .val (.long (own_rr q3 c2 (p6.toInt64) dl hh h2)), .second, .val (.long (dl / (1000 : Int64))), .second, .val (.long (own_lo hh dl)), .second, .val (.long (own_hi hh dl)), .second, .val (.long (c2 + (own_f1 ((p6.toInt64) - dl)))), .second, .val (.long (q3 + (own_f1 (p6.toInt64)))), .second, .val (.int (1 : Int32)), .unset] [(.long (own_rr q3 c2 (p6.toInt64) dl hh h2))])) _
        refine XS.lload X77.here hx rfl (hb hby at_287) rfl ?_
        show Steps p.tables e below (T77.setTop (mkF m 289 #[.val (.long q1), .second, .val (.long q2), .second, .val (.long q3), .second, .val (.long q4), .second, .val (.long q5), .second, .val (.int p6), .val (.long bb), .second, .val (.long dd), .second, .val (.long hh), .second, .val (.long (bb + hh)), .second, .val (.long dl), .second, .val (.long ss), .second, .val (.long h2), .second, .val (.long ee), .second, .val (.long ((bb + hh) + dl)), .second, .val (.long c2), .second, .val (.ref b17), .val (.long (q3 + (own_fd (p6.toInt64) (1000000 : Int64)))), .second, .val (.long (own_rr q3 c2 (p6.toInt64) dl hh h2)), .second, .val (.long (dl / (1000 : Int64))), .second, .val (.long (own_lo hh dl)), .second, .val (.long (own_hi hh dl)), .second, .val (.long (c2 + (own_f1 ((p6.toInt64) - dl)))), .second, .val (.long (q3 + (own_f1 (p6.toInt64)))), .second, .val (.int (1 : Int32)), .unset] [(.long (q3 + (own_f1 (p6.toInt64)))), (.long (own_rr q3 c2 (p6.toInt64) dl hh h2))])) _
        refine XS.lcmp X77.here hx rfl (hb hby at_289) rfl ?_
        show Steps p.tables e below (T77.setTop (mkF m 290 #[.val (.long q1), .second, .val (.long q2), .second, .val (.long q3), .second, .val (.long q4), .second, .val (.long q5), .second, .val (.int p6), .val (.long bb), .second, .val (.long dd), .second, .val (.long hh), .second, .val (.long (bb + hh)), .second, .val (.long dl), .second, .val (.long ss), .second, .val (.long h2), .second, .val (.long ee), .second, .val (.long ((bb + hh) + dl)), .second, .val (.long c2), .second, .val (.ref b17), .val (.long (q3 + (own_fd (p6.toInt64) (1000000 : Int64)))), .second, .val (.long (own_rr q3 c2 (p6.toInt64) dl hh h2)), .second, .val (.long (dl / (1000 : Int64))), .second, .val (.long (own_lo hh dl)), .second, .val (.long (own_hi hh dl)), .second, .val (.long (c2 + (own_f1 ((p6.toInt64) - dl)))), .second, .val (.long (q3 + (own_f1 (p6.toInt64)))), .second, .val (.int (1 : Int32)), .unset] [(.int (lcmpW (own_rr q3 c2 (p6.toInt64) dl hh h2) (q3 + (own_f1 (p6.toInt64)))))])) _
        refine XS.ifNo X77.here hx rfl (hb hby at_290) rfl ((if0 _ _).trans (teq ((lw_eq _ _).mpr (by rw [own_fE]; exact if_pos ((own_lim phh pj10).2 hc80)))).2) ?_
        show Steps p.tables e below (T77.setTop (mkF m 293 #[.val (.long q1), .second, .val (.long q2), .second, .val (.long q3), .second, .val (.long q4), .second, .val (.long q5), .second, .val (.int p6), .val (.long bb), .second, .val (.long dd), .second, .val (.long hh), .second, .val (.long (bb + hh)), .second, .val (.long dl), .second, .val (.long ss), .second, .val (.long h2), .second, .val (.long ee), .second, .val (.long ((bb + hh) + dl)), .second, .val (.long c2), .second, .val (.ref b17), .val (.long (q3 + (own_fd (p6.toInt64) (1000000 : Int64)))), .second, .val (.long (own_rr q3 c2 (p6.toInt64) dl hh h2)), .second, .val (.long (dl / (1000 : Int64))), .second, .val (.long (own_lo hh dl)), .second, .val (.long (own_hi hh dl)), .second, .val (.long (c2 + (own_f1 ((p6.toInt64) - dl)))), .second, .val (.long (q3 + (own_f1 (p6.toInt64)))), .second, .val (.int (1 : Int32)), .unset] [])) _
        refine XS.iconst X77.here hx rfl (hb hby at_293) ?_
        show Steps p.tables e below (T77.setTop (mkF m 294 #[.val (.long q1), .second, .val (.long q2), .second, .val (.long q3), .second, .val (.long q4), .second, .val (.long q5), .second, .val (.int p6), .val (.long bb), .second, .val (.long dd), .second, .val (.long hh), .second, .val (.long (bb + hh)), .second, .val (.long dl), .second, .val (.long ss), .second, .val (.long h2), .second, .val (.long ee), .second, .val (.long ((bb + hh) + dl)), .second, .val (.long c2), .second, .val (.ref b17), .val (.long (q3 + (own_fd (p6.toInt64) (1000000 : Int64)))), .second, .val (.long (own_rr q3 c2 (p6.toInt64) dl hh h2)), .second, .val (.long (dl / (1000 : Int64))), .second, .val (.long (own_lo hh dl)), .second, .val (.long (own_hi hh dl)), .second, .val (.long (c2 + (own_f1 ((p6.toInt64) - dl)))), .second, .val (.long (q3 + (own_f1 (p6.toInt64)))), .second, .val (.int (1 : Int32)), .unset] [(.int (1 : Int32))])) _
        refine XS.goto X77.here hx rfl (pc0 := 294) (pc' := 298) rfl (hb hby at_294) (by decide) (by decide) ?_
        show Steps p.tables e below (T77.setTop (mkF m 298 #[.val (.long q1), .second, .val (.long q2), .second, .val (.long q3), .second, .val (.long q4), .second, .val (.long q5), .second, .val (.int p6), .val (.long bb), .second, .val (.long dd), .second, .val (.long hh), .second, .val (.long (bb + hh)), .second, .val (.long dl), .second, .val (.long ss), .second, .val (.long h2), .second, .val (.long ee), .second, .val (.long ((bb + hh) + dl)), .second, .val (.long c2), .second, .val (.ref b17), .val (.long (q3 + (own_fd (p6.toInt64) (1000000 : Int64)))), .second, .val (.long (own_rr q3 c2 (p6.toInt64) dl hh h2)), .second, .val (.long (dl / (1000 : Int64))), .second, .val (.long (own_lo hh dl)), .second, .val (.long (own_hi hh dl)), .second, .val (.long (c2 + (own_f1 ((p6.toInt64) - dl)))), .second, .val (.long (q3 + (own_f1 (p6.toInt64)))), .second, .val (.int (1 : Int32)), .unset] [(.int (1 : Int32))])) _
        refine XS.istore X77.here hx rfl (hb hby at_298) rfl (l' := #[.val (.long q1), .second, .val (.long q2), .second, .val (.long q3), .second, .val (.long q4), .second, .val (.long q5), .second, .val (.int p6), .val (.long bb), .second, .val (.long dd), .second, .val (.long hh), .second, .val (.long (bb + hh)), .second, .val (.long dl), .second, .val (.long ss), .second, .val (.long h2), .second, .val (.long ee), .second, .val (.long ((bb + hh) + dl)), .second, .val (.long c2), .second, .val (.ref b17), .val (.long (q3 + (own_fd (p6.toInt64) (1000000 : Int64)))), .second, .val (.long (own_rr q3 c2 (p6.toInt64) dl hh h2)), .second, .val (.long (dl / (1000 : Int64))), .second, .val (.long (own_lo hh dl)), .second, .val (.long (own_hi hh dl)), .second, .val (.long (c2 + (own_f1 ((p6.toInt64) - dl)))), .second, .val (.long (q3 + (own_f1 (p6.toInt64)))), .second, .val (.int (1 : Int32)), .val (.int (1 : Int32))]) rfl ?_
        show Steps p.tables e below (T77.setTop (mkF m 300 #[.val (.long q1), .second, .val (.long q2), .second, .val (.long q3), .second, .val (.long q4), .second, .val (.long q5), .second, .val (.int p6), .val (.long bb), .second, .val (.long dd), .second, .val (.long hh), .second, .val (.long (bb + hh)), .second, .val (.long dl), .second, .val (.long ss), .second, .val (.long h2), .second, .val (.long ee), .second, .val (.long ((bb + hh) + dl)), .second, .val (.long c2), .second, .val (.ref b17), .val (.long (q3 + (own_fd (p6.toInt64) (1000000 : Int64)))), .second, .val (.long (own_rr q3 c2 (p6.toInt64) dl hh h2)), .second, .val (.long (dl / (1000 : Int64))), .second, .val (.long (own_lo hh dl)), .second, .val (.long (own_hi hh dl)), .second, .val (.long (c2 + (own_f1 ((p6.toInt64) - dl)))), .second, .val (.long (q3 + (own_f1 (p6.toInt64)))), .second, .val (.int (1 : Int32)), .val (.int (1 : Int32))] [])) _
        refine XS.goto X77.here hx rfl (pc0 := 300) (pc' := 326) rfl (hb hby at_300) (by decide) (by decide) ?_
        show Steps p.tables e below (T77.setTop (mkF m 326 #[.val (.long q1), .second, .val (.long q2), .second, .val (.long q3), .second, .val (.long q4), .second, .val (.long q5), .second, .val (.int p6), .val (.long bb), .second, .val (.long dd), .second, .val (.long hh), .second, .val (.long (bb + hh)), .second, .val (.long dl), .second, .val (.long ss), .second, .val (.long h2), .second, .val (.long ee), .second, .val (.long ((bb + hh) + dl)), .second, .val (.long c2), .second, .val (.ref b17), .val (.long (q3 + (own_fd (p6.toInt64) (1000000 : Int64)))), .second, .val (.long (own_rr q3 c2 (p6.toInt64) dl hh h2)), .second, .val (.long (dl / (1000 : Int64))), .second, .val (.long (own_lo hh dl)), .second, .val (.long (own_hi hh dl)), .second, .val (.long (c2 + (own_f1 ((p6.toInt64) - dl)))), .second, .val (.long (q3 + (own_f1 (p6.toInt64)))), .second, .val (.int (1 : Int32)), .val (.int (1 : Int32))] [])) _
        refine XS.iload X77.here hx rfl (hb hby at_326) rfl ?_
        show Steps p.tables e below (T77.setTop (mkF m 328 #[.val (.long q1), .second, .val (.long q2), .second, .val (.long q3), .second, .val (.long q4), .second, .val (.long q5), .second, .val (.int p6), .val (.long bb), .second, .val (.long dd), .second, .val (.long hh), .second, .val (.long (bb + hh)), .second, .val (.long dl), .second, .val (.long ss), .second, .val (.long h2), .second, .val (.long ee), .second, .val (.long ((bb + hh) + dl)), .second, .val (.long c2), .second, .val (.ref b17), .val (.long (q3 + (own_fd (p6.toInt64) (1000000 : Int64)))), .second, .val (.long (own_rr q3 c2 (p6.toInt64) dl hh h2)), .second, .val (.long (dl / (1000 : Int64))), .second, .val (.long (own_lo hh dl)), .second, .val (.long (own_hi hh dl)), .second, .val (.long (c2 + (own_f1 ((p6.toInt64) - dl)))), .second, .val (.long (q3 + (own_f1 (p6.toInt64)))), .second, .val (.int (1 : Int32)), .val (.int (1 : Int32))] [(.int (1 : Int32))])) _
        refine XS.ifNo X77.here hx rfl (hb hby at_328) rfl ((if0 _ _).trans (feq (by decide : ¬ ((1 : Int32) = (0 : Int32)))).1) ?_
        show Steps p.tables e below (T77.setTop (mkF m 331 #[.val (.long q1), .second, .val (.long q2), .second, .val (.long q3), .second, .val (.long q4), .second, .val (.long q5), .second, .val (.int p6), .val (.long bb), .second, .val (.long dd), .second, .val (.long hh), .second, .val (.long (bb + hh)), .second, .val (.long dl), .second, .val (.long ss), .second, .val (.long h2), .second, .val (.long ee), .second, .val (.long ((bb + hh) + dl)), .second, .val (.long c2), .second, .val (.ref b17), .val (.long (q3 + (own_fd (p6.toInt64) (1000000 : Int64)))), .second, .val (.long (own_rr q3 c2 (p6.toInt64) dl hh h2)), .second, .val (.long (dl / (1000 : Int64))), .second, .val (.long (own_lo hh dl)), .second, .val (.long (own_hi hh dl)), .second, .val (.long (c2 + (own_f1 ((p6.toInt64) - dl)))), .second, .val (.long (q3 + (own_f1 (p6.toInt64)))), .second, .val (.int (1 : Int32)), .val (.int (1 : Int32))] [])) _
        refine XS.iload X77.here hx rfl (hb hby at_331) rfl ?_
        show Steps p.tables e below (T77.setTop (mkF m 333 #[.val (.long q1), .second, .val (.long q2), .second, .val (.long q3), .second, .val (.long q4), .second, .val (.long q5), .second, .val (.int p6), .val (.long bb), .second, .val (.long dd), .second, .val (.long hh), .second, .val (.long (bb + hh)), .second, .val (.long dl), .second, .val (.long ss), .second, .val (.long h2), .second, .val (.long ee), .second, .val (.long ((bb + hh) + dl)), .second, .val (.long c2), .second, .val (.ref b17), .val (.long (q3 + (own_fd (p6.toInt64) (1000000 : Int64)))), .second, .val (.long (own_rr q3 c2 (p6.toInt64) dl hh h2)), .second, .val (.long (dl / (1000 : Int64))), .second, .val (.long (own_lo hh dl)), .second, .val (.long (own_hi hh dl)), .second, .val (.long (c2 + (own_f1 ((p6.toInt64) - dl)))), .second, .val (.long (q3 + (own_f1 (p6.toInt64)))), .second, .val (.int (1 : Int32)), .val (.int (1 : Int32))] [(.int (1 : Int32))])) _
        refine XS.ifNo X77.here hx rfl (hb hby at_333) rfl ((if0 _ _).trans (feq (by decide : ¬ ((1 : Int32) = (0 : Int32)))).1) ?_
        show Steps p.tables e below (T77.setTop (mkF m 336 #[.val (.long q1), .second, .val (.long q2), .second, .val (.long q3), .second, .val (.long q4), .second, .val (.long q5), .second, .val (.int p6), .val (.long bb), .second, .val (.long dd), .second, .val (.long hh), .second, .val (.long (bb + hh)), .second, .val (.long dl), .second, .val (.long ss), .second, .val (.long h2), .second, .val (.long ee), .second, .val (.long ((bb + hh) + dl)), .second, .val (.long c2), .second, .val (.ref b17), .val (.long (q3 + (own_fd (p6.toInt64) (1000000 : Int64)))), .second, .val (.long (own_rr q3 c2 (p6.toInt64) dl hh h2)), .second, .val (.long (dl / (1000 : Int64))), .second, .val (.long (own_lo hh dl)), .second, .val (.long (own_hi hh dl)), .second, .val (.long (c2 + (own_f1 ((p6.toInt64) - dl)))), .second, .val (.long (q3 + (own_f1 (p6.toInt64)))), .second, .val (.int (1 : Int32)), .val (.int (1 : Int32))] [])) _
        refine XS.iconst X77.here hx rfl (hb hby at_336) ?_
        show Steps p.tables e below (T77.setTop (mkF m 337 #[.val (.long q1), .second, .val (.long q2), .second, .val (.long q3), .second, .val (.long q4), .second, .val (.long q5), .second, .val (.int p6), .val (.long bb), .second, .val (.long dd), .second, .val (.long hh), .second, .val (.long (bb + hh)), .second, .val (.long dl), .second, .val (.long ss), .second, .val (.long h2), .second, .val (.long ee), .second, .val (.long ((bb + hh) + dl)), .second, .val (.long c2), .second, .val (.ref b17), .val (.long (q3 + (own_fd (p6.toInt64) (1000000 : Int64)))), .second, .val (.long (own_rr q3 c2 (p6.toInt64) dl hh h2)), .second, .val (.long (dl / (1000 : Int64))), .second, .val (.long (own_lo hh dl)), .second, .val (.long (own_hi hh dl)), .second, .val (.long (c2 + (own_f1 ((p6.toInt64) - dl)))), .second, .val (.long (q3 + (own_f1 (p6.toInt64)))), .second, .val (.int (1 : Int32)), .val (.int (1 : Int32))] [(.int (1 : Int32))])) _
        refine XS.goto X77.here hx rfl (pc0 := 337) (pc' := 341) rfl (hb hby at_337) (by decide) (by decide) ?_
        show Steps p.tables e below (T77.setTop (mkF m 341 #[.val (.long q1), .second, .val (.long q2), .second, .val (.long q3), .second, .val (.long q4), .second, .val (.long q5), .second, .val (.int p6), .val (.long bb), .second, .val (.long dd), .second, .val (.long hh), .second, .val (.long (bb + hh)), .second, .val (.long dl), .second, .val (.long ss), .second, .val (.long h2), .second, .val (.long ee), .second, .val (.long ((bb + hh) + dl)), .second, .val (.long c2), .second, .val (.ref b17), .val (.long (q3 + (own_fd (p6.toInt64) (1000000 : Int64)))), .second, .val (.long (own_rr q3 c2 (p6.toInt64) dl hh h2)), .second, .val (.long (dl / (1000 : Int64))), .second, .val (.long (own_lo hh dl)), .second, .val (.long (own_hi hh dl)), .second, .val (.long (c2 + (own_f1 ((p6.toInt64) - dl)))), .second, .val (.long (q3 + (own_f1 (p6.toInt64)))), .second, .val (.int (1 : Int32)), .val (.int (1 : Int32))] [(.int (1 : Int32))])) _
        exact kt
      obtain ⟨fs, hr, hrun, hended, hW, hsame⟩ := X77.leave (v := some (.int (1 : Int32))) (fun h => by rw [Bd.returns] at h; cases h)
      refine ⟨_, _, fin _ (pre82 _ ?_), hrun, hended, _, _, rfl, ?_, ⟨_, rfl⟩, hW, hsame.mono (by decide) (by decide)⟩
      · exact retN X77 hx (t := .boolean) Bd.returns (by simp) (hb hby at_341) hr
      · show Q0 Z q1 q2 q3 q4 q5 p6 h0 n0 _ T77.heap _
        rw [eq77]
        exact ⟨rfl, N77⟩
    · have pre84 : own_Go p e below S0 (T77.setTop (mkF m 308 #[.val (.long q1), .second, .val (.long q2), .second, .val (.long q3), .second, .val (.long q4), .second, .val (.long q5), .second, .val (.int p6), .val (.long bb), .second, .val (.long dd), .second, .val (.long hh), .second, .val (.long (bb + hh)), .second, .val (.long dl), .second, .val (.long ss), .second, .val (.long h2), .second, .val (.long ee), .second, .val (.long ((bb + hh) + dl)), .second, .val (.long c2), .second, .val (.ref b17), .val (.long (q3 + (own_fd (p6.toInt64) (1000000 : Int64)))), .second, .val (.long (own_rr q3 c2 (p6.toInt64) dl hh h2)), .second, .val (.long (dl / (1000 : Int64))), .second, .val (.long (own_lo hh dl)), .second, .val (.long (own_hi hh dl)), .second, .val (.long (c2 + (own_f1 ((p6.toInt64) - dl)))), .second, .val (.long (q3 + (own_f1 (p6.toInt64)))), .second, .val (.int (1 : Int32)), .unset] [(.int (lcmpW (own_rr q3 c2 (p6.toInt64) dl hh h2) (c2 + (own_f1 ((p6.toInt64) - dl)))))])) := by
        intro t kt
        refine pre81 t ?_
        refine XS.ifYes X77.here hx rfl (pc0 := 282) (pc' := 303) rfl (hb hby at_282) rfl ((if0 _ _).trans (flt (fun q => hc80 ((lw_gt _ _).mp q))).2.2.2) (by decide) (by decide) ?_
        show Steps p.tables e below (T77.setTop (mkF m 303 #[.val (.long q1), .second, .val (.long q2), .second, .val (.long q3), .second, .val (.long q4), .second, .val (.long q5), .second, .val (.int p6), .val (.long bb), .second, .val (.long dd), .second, .val (.long hh), .second, .val (.long (bb + hh)), .second, .val (.long dl), .second, .val (.long ss), .second, .val (.long h2), .second, .val (.long ee), .second, .val (.long ((bb + hh) + dl)), .second, .val (.long c2), .second, .val (.ref b17), .val (.long (q3 + (own_fd (p6.toInt64) (1000000 : Int64)))), .second, .val (.long (own_rr q3 c2 (p6.toInt64) dl hh h2)), .second, .val (.long (dl / (1000 : Int64))), .second, .val (.long (own_lo hh dl)), .second, .val (.long (own_hi hh dl)), .second, .val (.long (c2 + (own_f1 ((p6.toInt64) - dl)))), .second, .val (.long (q3 + (own_f1 (p6.toInt64)))), .second, .val (.int (1 : Int32)), .unset] [])) _
        refine XS.lload X77.here hx rfl (hb hby at_303) rfl ?_
        show Steps p.tables e below (T77.setTop (mkF m 305 #[.val (.long q1), .second, .val (.long q2), .second, .val (.long q3), .second, .val (.long q4), .second, .val (.long q5), .second, .val (.int p6), .val (.long bb), .second, .val (.long dd), .second, .val (.long hh), .second, .val (.long (bb + hh)), .second, .val (.long dl), .second, .val (.long ss), .second, .val (.long h2), .second, .val (.long ee), .second, .val (.long ((bb + hh) + dl)), .second, .val (.long c2), .second, .val (.ref b17), .val (.long (q3 + (own_fd (p6.toInt64) (1000000 : Int64)))), .second, .val (.long (own_rr q3 c2 (p6.toInt64) dl hh h2)), .second, .val (.long (dl / (1000 : Int64))), .second, .val (.long (own_lo hh dl)), .second, .val (.long (own_hi hh dl)), .second, .val (.long (c2 + (own_f1 ((p6.toInt64) - dl)))), .second, .val (.long (q3 + (own_f1 (p6.toInt64)))), .second, .val (.int (1 : Int32)), .unset] [(.long (own_rr q3 c2 (p6.toInt64) dl hh h2))])) _
        refine XS.lload X77.here hx rfl (hb hby at_305) rfl ?_
        show Steps p.tables e below (T77.setTop (mkF m 307 #[.val (.long q1), .second, .val (.long q2), .second, .val (.long q3), .second, .val (.long q4), .second, .val (.long q5), .second, .val (.int p6), .val (.long bb), .second, .val (.long dd), .second, .val (.long hh), .second, .val (.long (bb + hh)), .second, .val (.long dl), .second, .val (.long ss), .second, .val (.long h2), .second, .val (.long ee), .second, .val (.long ((bb + hh) + dl)), .second, .val (.long c2), .second, .val (.ref b17), .val (.long (q3 + (own_fd (p6.toInt64) (1000000 : Int64)))), .second, .val (.long (own_rr q3 c2 (p6.toInt64) dl hh h2)), .second, .val (.long (dl / (1000 : Int64))), .second, .val (.long (own_lo hh dl)), .second, .val (.long (own_hi hh dl)), .second, .val (.long (c2 + (own_f1 ((p6.toInt64) - dl)))), .second, .val (.long (q3 + (own_f1 (p6.toInt64)))), .second, .val (.int (1 : Int32)), .unset] [(.long (c2 + (own_f1 ((p6.toInt64) - dl)))), (.long (own_rr q3 c2 (p6.toInt64) dl hh h2))])) _
        refine XS.lcmp X77.here hx rfl (hb hby at_307) rfl ?_
        show Steps p.tables e below (T77.setTop (mkF m 308 #[.val (.long q1), .second, .val (.long q2), .second, .val (.long q3), .second, .val (.long q4), .second, .val (.long q5), .second, .val (.int p6), .val (.long bb), .second, .val (.long dd), .second, .val (.long hh), .second, .val (.long (bb + hh)), .second, .val (.long dl), .second, .val (.long ss), .second, .val (.long h2), .second, .val (.long ee), .second, .val (.long ((bb + hh) + dl)), .second, .val (.long c2), .second, .val (.ref b17), .val (.long (q3 + (own_fd (p6.toInt64) (1000000 : Int64)))), .second, .val (.long (own_rr q3 c2 (p6.toInt64) dl hh h2)), .second, .val (.long (dl / (1000 : Int64))), .second, .val (.long (own_lo hh dl)), .second, .val (.long (own_hi hh dl)), .second, .val (.long (c2 + (own_f1 ((p6.toInt64) - dl)))), .second, .val (.long (q3 + (own_f1 (p6.toInt64)))), .second, .val (.int (1 : Int32)), .unset] [(.int (lcmpW (own_rr q3 c2 (p6.toInt64) dl hh h2) (c2 + (own_f1 ((p6.toInt64) - dl)))))])) _
        exact kt
      by_cases hc83 : (own_rr q3 c2 (p6.toInt64) dl hh h2) = (c2 + (own_f1 ((p6.toInt64) - dl)))
      · have pre85 : own_Go p e below S0 (T77.setTop (mkF m 341 #[.val (.long q1), .second, .val (.long q2), .second, .val (.long q3), .second, .val (.long q4), .second, .val (.long q5), .second, .val (.int p6), .val (.long bb), .second, .val (.long dd), .second, .val (.long hh), .second, .val (.long (bb + hh)), .second, .val (.long dl), .second, .val (.long ss), .second, .val (.long h2), .second, .val (.long ee), .second, .val (.long ((bb + hh) + dl)), .second, .val (.long c2), .second, .val (.ref b17), .val (.long (q3 + (own_fd (p6.toInt64) (1000000 : Int64)))), .second, .val (.long (own_rr q3 c2 (p6.toInt64) dl hh h2)), .second, .val (.long (dl / (1000 : Int64))), .second, .val (.long (own_lo hh dl)), .second, .val (.long (own_hi hh dl)), .second, .val (.long (c2 + (own_f1 ((p6.toInt64) - dl)))), .second, .val (.long (q3 + (own_f1 (p6.toInt64)))), .second, .val (.int (1 : Int32)), .val (.int (1 : Int32))] [(.int (1 : Int32))])) := by
          intro t kt
          refine pre84 t ?_
          refine XS.ifYes X77.here hx rfl (pc0 := 308) (pc' := 319) rfl (hb hby at_308) rfl ((if0 _ _).trans (teq ((lw_eq _ _).mpr hc83)).1) (by decide) (by decide) ?_
          show Steps p.tables e below (T77.setTop (mkF m 319 #[.val (.long q1), .second, .val (.long q2), .second, .val (.long q3), .second, .val (.long q4), .second, .val (.long q5), .second, .val (.int p6), .val (.long bb), .second, .val (.long dd), .second, .val (.long hh), .second, .val (.long (bb + hh)), .second, .val (.long dl), .second, .val (.long ss), .second, .val (.long h2), .second, .val (.long ee), .second, .val (.long ((bb + hh) + dl)), .second, .val (.long c2), .second, .val (.ref b17), .val (.long (q3 + (own_fd (p6.toInt64) (1000000 : Int64)))), .second, .val (.long (own_rr q3 c2 (p6.toInt64) dl hh h2)), .second, .val (.long (dl / (1000 : Int64))), .second, .val (.long (own_lo hh dl)), .second, .val (.long (own_hi hh dl)), .second, .val (.long (c2 + (own_f1 ((p6.toInt64) - dl)))), .second, .val (.long (q3 + (own_f1 (p6.toInt64)))), .second, .val (.int (1 : Int32)), .unset] [])) _
          refine XS.iconst X77.here hx rfl (hb hby at_319) ?_
          show Steps p.tables e below (T77.setTop (mkF m 320 #[.val (.long q1), .second, .val (.long q2), .second, .val (.long q3), .second, .val (.long q4), .second, .val (.long q5), .second, .val (.int p6), .val (.long bb), .second, .val (.long dd), .second, .val (.long hh), .second, .val (.long (bb + hh)), .second, .val (.long dl), .second, .val (.long ss), .second, .val (.long h2), .second, .val (.long ee), .second, .val (.long ((bb + hh) + dl)), .second, .val (.long c2), .second, .val (.ref b17), .val (.long (q3 + (own_fd (p6.toInt64) (1000000 : Int64)))), .second, .val (.long (own_rr q3 c2 (p6.toInt64) dl hh h2)), .second, .val (.long (dl / (1000 : Int64))), .second, .val (.long (own_lo hh dl)), .second, .val (.long (own_hi hh dl)), .second, .val (.long (c2 + (own_f1 ((p6.toInt64) - dl)))), .second, .val (.long (q3 + (own_f1 (p6.toInt64)))), .second, .val (.int (1 : Int32)), .unset] [(.int (1 : Int32))])) _
          refine XS.goto X77.here hx rfl (pc0 := 320) (pc' := 324) rfl (hb hby at_320) (by decide) (by decide) ?_
          show Steps p.tables e below (T77.setTop (mkF m 324 #[.val (.long q1), .second, .val (.long q2), .second, .val (.long q3), .second, .val (.long q4), .second, .val (.long q5), .second, .val (.int p6), .val (.long bb), .second, .val (.long dd), .second, .val (.long hh), .second, .val (.long (bb + hh)), .second, .val (.long dl), .second, .val (.long ss), .second, .val (.long h2), .second, .val (.long ee), .second, .val (.long ((bb + hh) + dl)), .second, .val (.long c2), .second, .val (.ref b17), .val (.long (q3 + (own_fd (p6.toInt64) (1000000 : Int64)))), .second, .val (.long (own_rr q3 c2 (p6.toInt64) dl hh h2)), .second, .val (.long (dl / (1000 : Int64))), .second, .val (.long (own_lo hh dl)), .second, .val (.long (own_hi hh dl)), .second, .val (.long (c2 + (own_f1 ((p6.toInt64) - dl)))), .second, .val (.long (q3 + (own_f1 (p6.toInt64)))), .second, .val (.int (1 : Int32)), .unset] [(.int (1 : Int32))])) _
          refine XS.istore X77.here hx rfl (hb hby at_324) rfl (l' := #[.val (.long q1), .second, .val (.long q2), .second, .val (.long q3), .second, .val (.long q4), .second, .val (.long q5), .second, .val (.int p6), .val (.long bb), .second, .val (.long dd), .second, .val (.long hh), .second, .val (.long (bb + hh)), .second, .val (.long dl), .second, .val (.long ss), .second, .val (.long h2), .second, .val (.long ee), .second, .val (.long ((bb + hh) + dl)), .second, .val (.long c2), .second, .val (.ref b17), .val (.long (q3 + (own_fd (p6.toInt64) (1000000 : Int64)))), .second, .val (.long (own_rr q3 c2 (p6.toInt64) dl hh h2)), .second, .val (.long (dl / (1000 : Int64))), .second, .val (.long (own_lo hh dl)), .second, .val (.long (own_hi hh dl)), .second, .val (.long (c2 + (own_f1 ((p6.toInt64) - dl)))), .second, .val (.long (q3 + (own_f1 (p6.toInt64)))), .second, .val (.int (1 : Int32)), .val (.int (1 : Int32))]) rfl ?_
          show Steps p.tables e below (T77.setTop (mkF m 326 #[.val (.long q1), .second, .val (.long q2), .second, .val (.long q3), .second, .val (.long q4), .second, .val (.long q5), .second, .val (.int p6), .val (.long bb), .second, .val (.long dd), .second, .val (.long hh), .second, .val (.long (bb + hh)), .second, .val (.long dl), .second, .val (.long ss), .second, .val (.long h2), .second, .val (.long ee), .second, .val (.long ((bb + hh) + dl)), .second, .val (.long c2), .second, .val (.ref b17), .val (.long (q3 + (own_fd (p6.toInt64) (1000000 : Int64)))), .second, .val (.long (own_rr q3 c2 (p6.toInt64) dl hh h2)), .second, .val (.long (dl / (1000 : Int64))), .second, .val (.long (own_lo hh dl)), .second, .val (.long (own_hi hh dl)), .second, .val (.long (c2 + (own_f1 ((p6.toInt64) - dl)))), .second, .val (.long (q3 + (own_f1 (p6.toInt64)))), .second, .val (.int (1 : Int32)), .val (.int (1 : Int32))] [])) _
          refine XS.iload X77.here hx rfl (hb hby at_326) rfl ?_
          show Steps p.tables e below (T77.setTop (mkF m 328 #[.val (.long q1), .second, .val (.long q2), .second, .val (.long q3), .second, .val (.long q4), .second, .val (.long q5), .second, .val (.int p6), .val (.long bb), .second, .val (.long dd), .second, .val (.long hh), .second, .val (.long (bb + hh)), .second, .val (.long dl), .second, .val (.long ss), .second, .val (.long h2), .second, .val (.long ee), .second, .val (.long ((bb + hh) + dl)), .second, .val (.long c2), .second, .val (.ref b17), .val (.long (q3 + (own_fd (p6.toInt64) (1000000 : Int64)))), .second, .val (.long (own_rr q3 c2 (p6.toInt64) dl hh h2)), .second, .val (.long (dl / (1000 : Int64))), .second, .val (.long (own_lo hh dl)), .second, .val (.long (own_hi hh dl)), .second, .val (.long (c2 + (own_f1 ((p6.toInt64) - dl)))), .second, .val (.long (q3 + (own_f1 (p6.toInt64)))), .second, .val (.int (1 : Int32)), .val (.int (1 : Int32))] [(.int (1 : Int32))])) _
          refine XS.ifNo X77.here hx rfl (hb hby at_328) rfl ((if0 _ _).trans (feq (by decide : ¬ ((1 : Int32) = (0 : Int32)))).1) ?_
          show Steps p.tables e below (T77.setTop (mkF m 331 #[.val (.long q1), .second, .val (.long q2), .second, .val (.long q3), .second, .val (.long q4), .second, .val (.long q5), .second, .val (.int p6), .val (.long bb), .second, .val (.long dd), .second, .val (.long hh), .second, .val (.long (bb + hh)), .second, .val (.long dl), .second, .val (.long ss), .second, .val (.long h2), .second, .val (.long ee), .second, .val (.long ((bb + hh) + dl)), .second, .val (.long c2), .second, .val (.ref b17), .val (.long (q3 + (own_fd (p6.toInt64) (1000000 : Int64)))), .second, .val (.long (own_rr q3 c2 (p6.toInt64) dl hh h2)), .second, .val (.long (dl / (1000 : Int64))), .second, .val (.long (own_lo hh dl)), .second, .val (.long (own_hi hh dl)), .second, .val (.long (c2 + (own_f1 ((p6.toInt64) - dl)))), .second, .val (.long (q3 + (own_f1 (p6.toInt64)))), .second, .val (.int (1 : Int32)), .val (.int (1 : Int32))] [])) _
          refine XS.iload X77.here hx rfl (hb hby at_331) rfl ?_
          show Steps p.tables e below (T77.setTop (mkF m 333 #[.val (.long q1), .second, .val (.long q2), .second, .val (.long q3), .second, .val (.long q4), .second, .val (.long q5), .second, .val (.int p6), .val (.long bb), .second, .val (.long dd), .second, .val (.long hh), .second, .val (.long (bb + hh)), .second, .val (.long dl), .second, .val (.long ss), .second, .val (.long h2), .second, .val (.long ee), .second, .val (.long ((bb + hh) + dl)), .second, .val (.long c2), .second, .val (.ref b17), .val (.long (q3 + (own_fd (p6.toInt64) (1000000 : Int64)))), .second, .val (.long (own_rr q3 c2 (p6.toInt64) dl hh h2)), .second, .val (.long (dl / (1000 : Int64))), .second, .val (.long (own_lo hh dl)), .second, .val (.long (own_hi hh dl)), .second, .val (.long (c2 + (own_f1 ((p6.toInt64) - dl)))), .second, .val (.long (q3 + (own_f1 (p6.toInt64)))), .second, .val (.int (1 : Int32)), .val (.int (1 : Int32))] [(.int (1 : Int32))])) _
          refine XS.ifNo X77.here hx rfl (hb hby at_333) rfl ((if0 _ _).trans (feq (by decide : ¬ ((1 : Int32) = (0 : Int32)))).1) ?_
          show Steps p.tables e below (T77.setTop (mkF m 336 #[.val (.long q1), .second, .val (.long q2), .second, .val (.long q3), .second, .val (.long q4), .second, .val (.long q5), .second, .val (.int p6), .val (.long bb), .second, .val (.long dd), .second, .val (.long hh), .second, .val (.long (bb + hh)), .second, .val (.long dl), .second, .val (.long ss), .second, .val (.long h2), .second, .val (.long ee), .second, .val (.long ((bb + hh) + dl)), .second, .val (.long c2), .second, .val (.ref b17), .val (.long (q3 + (own_fd (p6.toInt64) (1000000 : Int64)))), .second, .val (.long (own_rr q3 c2 (p6.toInt64) dl hh h2)), .second, .val (.long (dl / (1000 : Int64))), .second, .val (.long (own_lo hh dl)), .second, .val (.long (own_hi hh dl)), .second, .val (.long (c2 + (own_f1 ((p6.toInt64) - dl)))), .second, .val (.long (q3 + (own_f1 (p6.toInt64)))), .second, .val (.int (1 : Int32)), .val (.int (1 : Int32))] [])) _
          refine XS.iconst X77.here hx rfl (hb hby at_336) ?_
          show Steps p.tables e below (T77.setTop (mkF m 337 #[.val (.long q1), .second, .val (.long q2), .second, .val (.long q3), .second, .val (.long q4), .second, .val (.long q5), .second, .val (.int p6), .val (.long bb), .second, .val (.long dd), .second, .val (.long hh), .second, .val (.long (bb + hh)), .second, .val (.long dl), .second, .val (.long ss), .second, .val (.long h2), .second, .val (.long ee), .second, .val (.long ((bb + hh) + dl)), .second, .val (.long c2), .second, .val (.ref b17), .val (.long (q3 + (own_fd (p6.toInt64) (1000000 : Int64)))), .second, .val (.long (own_rr q3 c2 (p6.toInt64) dl hh h2)), .second, .val (.long (dl / (1000 : Int64))), .second, .val (.long (own_lo hh dl)), .second, .val (.long (own_hi hh dl)), .second, .val (.long (c2 + (own_f1 ((p6.toInt64) - dl)))), .second, .val (.long (q3 + (own_f1 (p6.toInt64)))), .second, .val (.int (1 : Int32)), .val (.int (1 : Int32))] [(.int (1 : Int32))])) _
          refine XS.goto X77.here hx rfl (pc0 := 337) (pc' := 341) rfl (hb hby at_337) (by decide) (by decide) ?_
          show Steps p.tables e below (T77.setTop (mkF m 341 #[.val (.long q1), .second, .val (.long q2), .second, .val (.long q3), .second, .val (.long q4), .second, .val (.long q5), .second, .val (.int p6), .val (.long bb), .second, .val (.long dd), .second, .val (.long hh), .second, .val (.long (bb + hh)), .second, .val (.long dl), .second, .val (.long ss), .second, .val (.long h2), .second, .val (.long ee), .second, .val (.long ((bb + hh) + dl)), .second, .val (.long c2), .second, .val (.ref b17), .val (.long (q3 + (own_fd (p6.toInt64) (1000000 : Int64)))), .second, .val (.long (own_rr q3 c2 (p6.toInt64) dl hh h2)), .second, .val (.long (dl / (1000 : Int64))), .second, .val (.long (own_lo hh dl)), .second, .val (.long (own_hi hh dl)), .second, .val (.long (c2 + (own_f1 ((p6.toInt64) - dl)))), .second, .val (.long (q3 + (own_f1 (p6.toInt64)))), .second, .val (.int (1 : Int32)), .val (.int (1 : Int32))] [(.int (1 : Int32))])) _
          exact kt
        obtain ⟨fs, hr, hrun, hended, hW, hsame⟩ := X77.leave (v := some (.int (1 : Int32))) (fun h => by rw [Bd.returns] at h; cases h)
        refine ⟨_, _, fin _ (pre85 _ ?_), hrun, hended, _, _, rfl, ?_, ⟨_, rfl⟩, hW, hsame.mono (by decide) (by decide)⟩
        · exact retN X77 hx (t := .boolean) Bd.returns (by simp) (hb hby at_341) hr
        · show Q0 Z q1 q2 q3 q4 q5 p6 h0 n0 _ T77.heap _
          rw [eq77]
          exact ⟨rfl, N77⟩
      · have pre86 : own_Go p e below S0 (T77.setTop (mkF m 341 #[.val (.long q1), .second, .val (.long q2), .second, .val (.long q3), .second, .val (.long q4), .second, .val (.long q5), .second, .val (.int p6), .val (.long bb), .second, .val (.long dd), .second, .val (.long hh), .second, .val (.long (bb + hh)), .second, .val (.long dl), .second, .val (.long ss), .second, .val (.long h2), .second, .val (.long ee), .second, .val (.long ((bb + hh) + dl)), .second, .val (.long c2), .second, .val (.ref b17), .val (.long (q3 + (own_fd (p6.toInt64) (1000000 : Int64)))), .second, .val (.long (own_rr q3 c2 (p6.toInt64) dl hh h2)), .second, .val (.long (dl / (1000 : Int64))), .second, .val (.long (own_lo hh dl)), .second, .val (.long (own_hi hh dl)), .second, .val (.long (c2 + (own_f1 ((p6.toInt64) - dl)))), .second, .val (.long (q3 + (own_f1 (p6.toInt64)))), .second, .val (.int (1 : Int32)), .val (.int (1 : Int32))] [(.int (1 : Int32))])) := by
          intro t kt
          refine pre84 t ?_
          refine XS.ifNo X77.here hx rfl (hb hby at_308) rfl ((if0 _ _).trans (feq (fun q => hc83 ((lw_eq _ _).mp q))).1) ?_
          show Steps p.tables e below (T77.setTop (mkF m 311 #[.val (.long q1), .second, .val (.long q2), .second, .val (.long q3), .second, .val (.long q4), .second, .val (.long q5), .second, .val (.int p6), .val (.long bb), .second, .val (.long dd), .second, .val (.long hh), .second, .val (.long (bb + hh)), .second, .val (.long dl), .second, .val (.long ss), .second, .val (.long h2), .second, .val (.long ee), .second, .val (.long ((bb + hh) + dl)), .second, .val (.long c2), .second, .val (.ref b17), .val (.long (q3 + (own_fd (p6.toInt64) (1000000 : Int64)))), .second, .val (.long (own_rr q3 c2 (p6.toInt64) dl hh h2)), .second, .val (.long (dl / (1000 : Int64))), .second, .val (.long (own_lo hh dl)), .second, .val (.long (own_hi hh dl)), .second, .val (.long (c2 + (own_f1 ((p6.toInt64) - dl)))), .second, .val (.long (q3 + (own_f1 (p6.toInt64)))), .second, .val (.int (1 : Int32)), .unset] [])) _
          refine XS.lload X77.here hx rfl (hb hby at_311) rfl ?_
          show Steps p.tables e below (T77.setTop (mkF m 313 #[.val (.long q1), .second, .val (.long q2), .second, .val (.long q3), .second, .val (.long q4), .second, .val (.long q5), .second, .val (.int p6), .val (.long bb), .second, .val (.long dd), .second, .val (.long hh), .second, .val (.long (bb + hh)), .second, .val (.long dl), .second, .val (.long ss), .second, .val (.long h2), .second, .val (.long ee), .second, .val (.long ((bb + hh) + dl)), .second, .val (.long c2), .second, .val (.ref b17), .val (.long (q3 + (own_fd (p6.toInt64) (1000000 : Int64)))), .second, .val (.long (own_rr q3 c2 (p6.toInt64) dl hh h2)), .second, .val (.long (dl / (1000 : Int64))), .second, .val (.long (own_lo hh dl)), .second, .val (.long (own_hi hh dl)), .second, .val (.long (c2 + (own_f1 ((p6.toInt64) - dl)))), .second, .val (.long (q3 + (own_f1 (p6.toInt64)))), .second, .val (.int (1 : Int32)), .unset] [(.long (own_rr q3 c2 (p6.toInt64) dl hh h2))])) _
          refine XS.lload X77.here hx rfl (hb hby at_313) rfl ?_
          show Steps p.tables e below (T77.setTop (mkF m 315 #[.val (.long q1), .second, .val (.long q2), .second, .val (.long q3), .second, .val (.long q4), .second, .val (.long q5), .second, .val (.int p6), .val (.long bb), .second, .val (.long dd), .second, .val (.long hh), .second, .val (.long (bb + hh)), .second, .val (.long dl), .second, .val (.long ss), .second, .val (.long h2), .second, .val (.long ee), .second, .val (.long ((bb + hh) + dl)), .second, .val (.long c2), .second, .val (.ref b17), .val (.long (q3 + (own_fd (p6.toInt64) (1000000 : Int64)))), .second, .val (.long (own_rr q3 c2 (p6.toInt64) dl hh h2)), .second, .val (.long (dl / (1000 : Int64))), .second, .val (.long (own_lo hh dl)), .second, .val (.long (own_hi hh dl)), .second, .val (.long (c2 + (own_f1 ((p6.toInt64) - dl)))), .second, .val (.long (q3 + (own_f1 (p6.toInt64)))), .second, .val (.int (1 : Int32)), .unset] [(.long (q3 + (own_f1 (p6.toInt64)))), (.long (own_rr q3 c2 (p6.toInt64) dl hh h2))])) _
          refine XS.lcmp X77.here hx rfl (hb hby at_315) rfl ?_
          show Steps p.tables e below (T77.setTop (mkF m 316 #[.val (.long q1), .second, .val (.long q2), .second, .val (.long q3), .second, .val (.long q4), .second, .val (.long q5), .second, .val (.int p6), .val (.long bb), .second, .val (.long dd), .second, .val (.long hh), .second, .val (.long (bb + hh)), .second, .val (.long dl), .second, .val (.long ss), .second, .val (.long h2), .second, .val (.long ee), .second, .val (.long ((bb + hh) + dl)), .second, .val (.long c2), .second, .val (.ref b17), .val (.long (q3 + (own_fd (p6.toInt64) (1000000 : Int64)))), .second, .val (.long (own_rr q3 c2 (p6.toInt64) dl hh h2)), .second, .val (.long (dl / (1000 : Int64))), .second, .val (.long (own_lo hh dl)), .second, .val (.long (own_hi hh dl)), .second, .val (.long (c2 + (own_f1 ((p6.toInt64) - dl)))), .second, .val (.long (q3 + (own_f1 (p6.toInt64)))), .second, .val (.int (1 : Int32)), .unset] [(.int (lcmpW (own_rr q3 c2 (p6.toInt64) dl hh h2) (q3 + (own_f1 (p6.toInt64)))))])) _
          refine XS.ifNo X77.here hx rfl (hb hby at_316) rfl ((if0 _ _).trans (teq ((lw_eq _ _).mpr (by rw [own_fE] at *; unfold own_rr at *; split; rfl; exact absurd (if_neg ‹_›) hc83))).2) ?_
          show Steps p.tables e below (T77.setTop (mkF m 319 #[.val (.long q1), .second, .val (.long q2), .second, .val (.long q3), .second, .val (.long q4), .second, .val (.long q5), .second, .val (.int p6), .val (.long bb), .second, .val (.long dd), .second, .val (.long hh), .second, .val (.long (bb + hh)), .second, .val (.long dl), .second, .val (.long ss), .second, .val (.long h2), .second, .val (.long ee), .second, .val (.long ((bb + hh) + dl)), .second, .val (.long c2), .second, .val (.ref b17), .val (.long (q3 + (own_fd (p6.toInt64) (1000000 : Int64)))), .second, .val (.long (own_rr q3 c2 (p6.toInt64) dl hh h2)), .second, .val (.long (dl / (1000 : Int64))), .second, .val (.long (own_lo hh dl)), .second, .val (.long (own_hi hh dl)), .second, .val (.long (c2 + (own_f1 ((p6.toInt64) - dl)))), .second, .val (.long (q3 + (own_f1 (p6.toInt64)))), .second, .val (.int (1 : Int32)), .unset] [])) _
          refine XS.iconst X77.here hx rfl (hb hby at_319) ?_
          show Steps p.tables e below (T77.setTop (mkF m 320 #[.val (.long q1), .second, .val (.long q2), .second, .val (.long q3), .second, .val (.long q4), .second, .val (.long q5), .second, .val (.int p6), .val (.long bb), .second, .val (.long dd), .second, .val (.long hh), .second, .val (.long (bb + hh)), .second, .val (.long dl), .second, .val (.long ss), .second, .val (.long h2), .second, .val (.long ee), .second, .val (.long ((bb + hh) + dl)), .second, .val (.long c2), .second, .val (.ref b17), .val (.long (q3 + (own_fd (p6.toInt64) (1000000 : Int64)))), .second, .val (.long (own_rr q3 c2 (p6.toInt64) dl hh h2)), .second, .val (.long (dl / (1000 : Int64))), .second, .val (.long (own_lo hh dl)), .second, .val (.long (own_hi hh dl)), .second, .val (.long (c2 + (own_f1 ((p6.toInt64) - dl)))), .second, .val (.long (q3 + (own_f1 (p6.toInt64)))), .second, .val (.int (1 : Int32)), .unset] [(.int (1 : Int32))])) _
          refine XS.goto X77.here hx rfl (pc0 := 320) (pc' := 324) rfl (hb hby at_320) (by decide) (by decide) ?_
          show Steps p.tables e below (T77.setTop (mkF m 324 #[.val (.long q1), .second, .val (.long q2), .second, .val (.long q3), .second, .val (.long q4), .second, .val (.long q5), .second, .val (.int p6), .val (.long bb), .second, .val (.long dd), .second, .val (.long hh), .second, .val (.long (bb + hh)), .second, .val (.long dl), .second, .val (.long ss), .second, .val (.long h2), .second, .val (.long ee), .second, .val (.long ((bb + hh) + dl)), .second, .val (.long c2), .second, .val (.ref b17), .val (.long (q3 + (own_fd (p6.toInt64) (1000000 : Int64)))), .second, .val (.long (own_rr q3 c2 (p6.toInt64) dl hh h2)), .second, .val (.long (dl / (1000 : Int64))), .second, .val (.long (own_lo hh dl)), .second, .val (.long (own_hi hh dl)), .second, .val (.long (c2 + (own_f1 ((p6.toInt64) - dl)))), .second, .val (.long (q3 + (own_f1 (p6.toInt64)))), .second, .val (.int (1 : Int32)), .unset] [(.int (1 : Int32))])) _
          refine XS.istore X77.here hx rfl (hb hby at_324) rfl (l' := #[.val (.long q1), .second, .val (.long q2), .second, .val (.long q3), .second, .val (.long q4), .second, .val (.long q5), .second, .val (.int p6), .val (.long bb), .second, .val (.long dd), .second, .val (.long hh), .second, .val (.long (bb + hh)), .second, .val (.long dl), .second, .val (.long ss), .second, .val (.long h2), .second, .val (.long ee), .second, .val (.long ((bb + hh) + dl)), .second, .val (.long c2), .second, .val (.ref b17), .val (.long (q3 + (own_fd (p6.toInt64) (1000000 : Int64)))), .second, .val (.long (own_rr q3 c2 (p6.toInt64) dl hh h2)), .second, .val (.long (dl / (1000 : Int64))), .second, .val (.long (own_lo hh dl)), .second, .val (.long (own_hi hh dl)), .second, .val (.long (c2 + (own_f1 ((p6.toInt64) - dl)))), .second, .val (.long (q3 + (own_f1 (p6.toInt64)))), .second, .val (.int (1 : Int32)), .val (.int (1 : Int32))]) rfl ?_
          show Steps p.tables e below (T77.setTop (mkF m 326 #[.val (.long q1), .second, .val (.long q2), .second, .val (.long q3), .second, .val (.long q4), .second, .val (.long q5), .second, .val (.int p6), .val (.long bb), .second, .val (.long dd), .second, .val (.long hh), .second, .val (.long (bb + hh)), .second, .val (.long dl), .second, .val (.long ss), .second, .val (.long h2), .second, .val (.long ee), .second, .val (.long ((bb + hh) + dl)), .second, .val (.long c2), .second, .val (.ref b17), .val (.long (q3 + (own_fd (p6.toInt64) (1000000 : Int64)))), .second, .val (.long (own_rr q3 c2 (p6.toInt64) dl hh h2)), .second, .val (.long (dl / (1000 : Int64))), .second, .val (.long (own_lo hh dl)), .second, .val (.long (own_hi hh dl)), .second, .val (.long (c2 + (own_f1 ((p6.toInt64) - dl)))), .second, .val (.long (q3 + (own_f1 (p6.toInt64)))), .second, .val (.int (1 : Int32)), .val (.int (1 : Int32))] [])) _
          refine XS.iload X77.here hx rfl (hb hby at_326) rfl ?_
          show Steps p.tables e below (T77.setTop (mkF m 328 #[.val (.long q1), .second, .val (.long q2), .second, .val (.long q3), .second, .val (.long q4), .second, .val (.long q5), .second, .val (.int p6), .val (.long bb), .second, .val (.long dd), .second, .val (.long hh), .second, .val (.long (bb + hh)), .second, .val (.long dl), .second, .val (.long ss), .second, .val (.long h2), .second, .val (.long ee), .second, .val (.long ((bb + hh) + dl)), .second, .val (.long c2), .second, .val (.ref b17), .val (.long (q3 + (own_fd (p6.toInt64) (1000000 : Int64)))), .second, .val (.long (own_rr q3 c2 (p6.toInt64) dl hh h2)), .second, .val (.long (dl / (1000 : Int64))), .second, .val (.long (own_lo hh dl)), .second, .val (.long (own_hi hh dl)), .second, .val (.long (c2 + (own_f1 ((p6.toInt64) - dl)))), .second, .val (.long (q3 + (own_f1 (p6.toInt64)))), .second, .val (.int (1 : Int32)), .val (.int (1 : Int32))] [(.int (1 : Int32))])) _
          refine XS.ifNo X77.here hx rfl (hb hby at_328) rfl ((if0 _ _).trans (feq (by decide : ¬ ((1 : Int32) = (0 : Int32)))).1) ?_
          show Steps p.tables e below (T77.setTop (mkF m 331 #[.val (.long q1), .second, .val (.long q2), .second, .val (.long q3), .second, .val (.long q4), .second, .val (.long q5), .second, .val (.int p6), .val (.long bb), .second, .val (.long dd), .second, .val (.long hh), .second, .val (.long (bb + hh)), .second, .val (.long dl), .second, .val (.long ss), .second, .val (.long h2), .second, .val (.long ee), .second, .val (.long ((bb + hh) + dl)), .second, .val (.long c2), .second, .val (.ref b17), .val (.long (q3 + (own_fd (p6.toInt64) (1000000 : Int64)))), .second, .val (.long (own_rr q3 c2 (p6.toInt64) dl hh h2)), .second, .val (.long (dl / (1000 : Int64))), .second, .val (.long (own_lo hh dl)), .second, .val (.long (own_hi hh dl)), .second, .val (.long (c2 + (own_f1 ((p6.toInt64) - dl)))), .second, .val (.long (q3 + (own_f1 (p6.toInt64)))), .second, .val (.int (1 : Int32)), .val (.int (1 : Int32))] [])) _
          refine XS.iload X77.here hx rfl (hb hby at_331) rfl ?_
          show Steps p.tables e below (T77.setTop (mkF m 333 #[.val (.long q1), .second, .val (.long q2), .second, .val (.long q3), .second, .val (.long q4), .second, .val (.long q5), .second, .val (.int p6), .val (.long bb), .second, .val (.long dd), .second, .val (.long hh), .second, .val (.long (bb + hh)), .second, .val (.long dl), .second, .val (.long ss), .second, .val (.long h2), .second, .val (.long ee), .second, .val (.long ((bb + hh) + dl)), .second, .val (.long c2), .second, .val (.ref b17), .val (.long (q3 + (own_fd (p6.toInt64) (1000000 : Int64)))), .second, .val (.long (own_rr q3 c2 (p6.toInt64) dl hh h2)), .second, .val (.long (dl / (1000 : Int64))), .second, .val (.long (own_lo hh dl)), .second, .val (.long (own_hi hh dl)), .second, .val (.long (c2 + (own_f1 ((p6.toInt64) - dl)))), .second, .val (.long (q3 + (own_f1 (p6.toInt64)))), .second, .val (.int (1 : Int32)), .val (.int (1 : Int32))] [(.int (1 : Int32))])) _
          refine XS.ifNo X77.here hx rfl (hb hby at_333) rfl ((if0 _ _).trans (feq (by decide : ¬ ((1 : Int32) = (0 : Int32)))).1) ?_
          show Steps p.tables e below (T77.setTop (mkF m 336 #[.val (.long q1), .second, .val (.long q2), .second, .val (.long q3), .second, .val (.long q4), .second, .val (.long q5), .second, .val (.int p6), .val (.long bb), .second, .val (.long dd), .second, .val (.long hh), .second, .val (.long (bb + hh)), .second, .val (.long dl), .second, .val (.long ss), .second, .val (.long h2), .second, .val (.long ee), .second, .val (.long ((bb + hh) + dl)), .second, .val (.long c2), .second, .val (.ref b17), .val (.long (q3 + (own_fd (p6.toInt64) (1000000 : Int64)))), .second, .val (.long (own_rr q3 c2 (p6.toInt64) dl hh h2)), .second, .val (.long (dl / (1000 : Int64))), .second, .val (.long (own_lo hh dl)), .second, .val (.long (own_hi hh dl)), .second, .val (.long (c2 + (own_f1 ((p6.toInt64) - dl)))), .second, .val (.long (q3 + (own_f1 (p6.toInt64)))), .second, .val (.int (1 : Int32)), .val (.int (1 : Int32))] [])) _
          refine XS.iconst X77.here hx rfl (hb hby at_336) ?_
          show Steps p.tables e below (T77.setTop (mkF m 337 #[.val (.long q1), .second, .val (.long q2), .second, .val (.long q3), .second, .val (.long q4), .second, .val (.long q5), .second, .val (.int p6), .val (.long bb), .second, .val (.long dd), .second, .val (.long hh), .second, .val (.long (bb + hh)), .second, .val (.long dl), .second, .val (.long ss), .second, .val (.long h2), .second, .val (.long ee), .second, .val (.long ((bb + hh) + dl)), .second, .val (.long c2), .second, .val (.ref b17), .val (.long (q3 + (own_fd (p6.toInt64) (1000000 : Int64)))), .second, .val (.long (own_rr q3 c2 (p6.toInt64) dl hh h2)), .second, .val (.long (dl / (1000 : Int64))), .second, .val (.long (own_lo hh dl)), .second, .val (.long (own_hi hh dl)), .second, .val (.long (c2 + (own_f1 ((p6.toInt64) - dl)))), .second, .val (.long (q3 + (own_f1 (p6.toInt64)))), .second, .val (.int (1 : Int32)), .val (.int (1 : Int32))] [(.int (1 : Int32))])) _
          refine XS.goto X77.here hx rfl (pc0 := 337) (pc' := 341) rfl (hb hby at_337) (by decide) (by decide) ?_
          show Steps p.tables e below (T77.setTop (mkF m 341 #[.val (.long q1), .second, .val (.long q2), .second, .val (.long q3), .second, .val (.long q4), .second, .val (.long q5), .second, .val (.int p6), .val (.long bb), .second, .val (.long dd), .second, .val (.long hh), .second, .val (.long (bb + hh)), .second, .val (.long dl), .second, .val (.long ss), .second, .val (.long h2), .second, .val (.long ee), .second, .val (.long ((bb + hh) + dl)), .second, .val (.long c2), .second, .val (.ref b17), .val (.long (q3 + (own_fd (p6.toInt64) (1000000 : Int64)))), .second, .val (.long (own_rr q3 c2 (p6.toInt64) dl hh h2)), .second, .val (.long (dl / (1000 : Int64))), .second, .val (.long (own_lo hh dl)), .second, .val (.long (own_hi hh dl)), .second, .val (.long (c2 + (own_f1 ((p6.toInt64) - dl)))), .second, .val (.long (q3 + (own_f1 (p6.toInt64)))), .second, .val (.int (1 : Int32)), .val (.int (1 : Int32))] [(.int (1 : Int32))])) _
          exact kt
        obtain ⟨fs, hr, hrun, hended, hW, hsame⟩ := X77.leave (v := some (.int (1 : Int32))) (fun h => by rw [Bd.returns] at h; cases h)
        refine ⟨_, _, fin _ (pre86 _ ?_), hrun, hended, _, _, rfl, ?_, ⟨_, rfl⟩, hW, hsame.mono (by decide) (by decide)⟩
        · exact retN X77 hx (t := .boolean) Bd.returns (by simp) (hb hby at_341) hr
        · show Q0 Z q1 q2 q3 q4 q5 p6 h0 n0 _ T77.heap _
          rw [eq77]
          exact ⟨rfl, N77⟩
  · have pre87 : own_Go p e below S0 (T77.setTop (mkF m 341 #[.val (.long q1), .second, .val (.long q2), .second, .val (.long q3), .second, .val (.long q4), .second, .val (.long q5), .second, .val (.int p6), .val (.long bb), .second, .val (.long dd), .second, .val (.long hh), .second, .val (.long (bb + hh)), .second, .val (.long dl), .second, .val (.long ss), .second, .val (.long h2), .second, .val (.long ee), .second, .val (.long ((bb + hh) + dl)), .second, .val (.long c2), .second, .val (.ref b17), .val (.long (q3 + (own_fd (p6.toInt64) (1000000 : Int64)))), .second, .val (.long (own_rr q3 c2 (p6.toInt64) dl hh h2)), .second, .val (.long (dl / (1000 : Int64))), .second, .val (.long (own_lo hh dl)), .second, .val (.long (own_hi hh dl)), .second, .val (.long (c2 + (own_f1 ((p6.toInt64) - dl)))), .second, .val (.long (q3 + (own_f1 (p6.toInt64)))), .second, .val (.int (1 : Int32)), .val (.int (1 : Int32))] [(.int (1 : Int32))])) := by
      intro t kt
      refine pre79 t ?_
      refine XS.ifNo X77.here hx rfl (hb hby at_256) rfl ((if0 _ _).trans (flt (fun q => hc78 ((lw_gt _ _).mp q))).2.2.1) ?_
      show Steps p.tables e below (T77.setTop (mkF m 259 #[.val (.long q1), .second, .val (.long q2), .second, .val (.long q3), .second, .val (.long q4), .second, .val (.long q5), .second, .val (.int p6), .val (.long bb), .second, .val (.long dd), .second, .val (.long hh), .second, .val (.long (bb + hh)), .second, .val (.long dl), .second, .val (.long ss), .second, .val (.long h2), .second, .val (.long ee), .second, .val (.long ((bb + hh) + dl)), .second, .val (.long c2), .second, .val (.ref b17), .val (.long (q3 + (own_fd (p6.toInt64) (1000000 : Int64)))), .second, .val (.long (own_rr q3 c2 (p6.toInt64) dl hh h2)), .second, .val (.long (dl / (1000 : Int64))), .second, .val (.long (own_lo hh dl)), .second, .val (.long (own_hi hh dl)), .second, .val (.long (c2 + (own_f1 ((p6.toInt64) - dl)))), .second, .val (.long (q3 + (own_f1 (p6.toInt64)))), .second, .val (.int (1 : Int32)), .unset] [])) _
      refine XS.lload X77.here hx rfl (hb hby at_259) rfl ?_
      show Steps p.tables e below (T77.setTop (mkF m 261 #[.val (.long q1), .second, .val (.long q2), .second, .val (.long q3), .second, .val (.long q4), .second, .val (.long q5), .second, .val (.int p6), .val (.long bb), .second, .val (.long dd), .second, .val (.long hh), .second, .val (.long (bb + hh)), .second, .val (.long dl), .second, .val (.long ss), .second, .val (.long h2), .second, .val (.long ee), .second, .val (.long ((bb + hh) + dl)), .second, .val (.long c2), .second, .val (.ref b17), .val (.long (q3 + (own_fd (p6.toInt64) (1000000 : Int64)))), .second, .val (.long (own_rr q3 c2 (p6.toInt64) dl hh h2)), .second, .val (.long (dl / (1000 : Int64))), .second, .val (.long (own_lo hh dl)), .second, .val (.long (own_hi hh dl)), .second, .val (.long (c2 + (own_f1 ((p6.toInt64) - dl)))), .second, .val (.long (q3 + (own_f1 (p6.toInt64)))), .second, .val (.int (1 : Int32)), .unset] [(.long (own_rr q3 c2 (p6.toInt64) dl hh h2))])) _
      refine XS.lload X77.here hx rfl (hb hby at_261) rfl ?_
      show Steps p.tables e below (T77.setTop (mkF m 263 #[.val (.long q1), .second, .val (.long q2), .second, .val (.long q3), .second, .val (.long q4), .second, .val (.long q5), .second, .val (.int p6), .val (.long bb), .second, .val (.long dd), .second, .val (.long hh), .second, .val (.long (bb + hh)), .second, .val (.long dl), .second, .val (.long ss), .second, .val (.long h2), .second, .val (.long ee), .second, .val (.long ((bb + hh) + dl)), .second, .val (.long c2), .second, .val (.ref b17), .val (.long (q3 + (own_fd (p6.toInt64) (1000000 : Int64)))), .second, .val (.long (own_rr q3 c2 (p6.toInt64) dl hh h2)), .second, .val (.long (dl / (1000 : Int64))), .second, .val (.long (own_lo hh dl)), .second, .val (.long (own_hi hh dl)), .second, .val (.long (c2 + (own_f1 ((p6.toInt64) - dl)))), .second, .val (.long (q3 + (own_f1 (p6.toInt64)))), .second, .val (.int (1 : Int32)), .unset] [(.long (c2 + (own_f1 ((p6.toInt64) - dl)))), (.long (own_rr q3 c2 (p6.toInt64) dl hh h2))])) _
      refine XS.lcmp X77.here hx rfl (hb hby at_263) rfl ?_
      show Steps p.tables e below (T77.setTop (mkF m 264 #[.val (.long q1), .second, .val (.long q2), .second, .val (.long q3), .second, .val (.long q4), .second, .val (.long q5), .second, .val (.int p6), .val (.long bb), .second, .val (.long dd), .second, .val (.long hh), .second, .val (.long (bb + hh)), .second, .val (.long dl), .second, .val (.long ss), .second, .val (.long h2), .second, .val (.long ee), .second, .val (.long ((bb + hh) + dl)), .second, .val (.long c2), .second, .val (.ref b17), .val (.long (q3 + (own_fd (p6.toInt64) (1000000 : Int64)))), .second, .val (.long (own_rr q3 c2 (p6.toInt64) dl hh h2)), .second, .val (.long (dl / (1000 : Int64))), .second, .val (.long (own_lo hh dl)), .second, .val (.long (own_hi hh dl)), .second, .val (.long (c2 + (own_f1 ((p6.toInt64) - dl)))), .second, .val (.long (q3 + (own_f1 (p6.toInt64)))), .second, .val (.int (1 : Int32)), .unset] [(.int (lcmpW (own_rr q3 c2 (p6.toInt64) dl hh h2) (c2 + (own_f1 ((p6.toInt64) - dl)))))])) _
      refine XS.ifNo X77.here hx rfl (hb hby at_264) rfl ((if0 _ _).trans (teq ((lw_eq _ _).mpr (by rw [own_fE]; exact if_neg ((own_lim phh pj10).1 hc78)))).2) ?_
      show Steps p.tables e below (T77.setTop (mkF m 267 #[.val (.long q1), .second, .val (.long q2), .second, .val (.long q3), .second, .val (.long q4), .second, .val (.long q5), .second, .val (.int p6), .val (.long bb), .second, .val (.long dd), .second, .val (.long hh), .second, .val (.long (bb + hh)), .second, .val (.long dl), .second, .val (.long ss), .second, .val (.long h2), .second, .val (.long ee), .second, .val (.long ((bb + hh) + dl)), .second, .val (.long c2), .second, .val (.ref b17), .val (.long (q3 + (own_fd (p6.toInt64) (1000000 : Int64)))), .second, .val (.long (own_rr q3 c2 (p6.toInt64) dl hh h2)), .second, .val (.long (dl / (1000 : Int64))), .second, .val (.long (own_lo hh dl)), .second, .val (.long (own_hi hh dl)), .second, .val (.long (c2 + (own_f1 ((p6.toInt64) - dl)))), .second, .val (.long (q3 + (own_f1 (p6.toInt64)))), .second, .val (.int (1 : Int32)), .unset] [])) _
      refine XS.iconst X77.here hx rfl (hb hby at_267) ?_
      show Steps p.tables e below (T77.setTop (mkF m 268 #[.val (.long q1), .second, .val (.long q2), .second, .val (.long q3), .second, .val (.long q4), .second, .val (.long q5), .second, .val (.int p6), .val (.long bb), .second, .val (.long dd), .second, .val (.long hh), .second, .val (.long (bb + hh)), .second, .val (.long dl), .second, .val (.long ss), .second, .val (.long h2), .second, .val (.long ee), .second, .val (.long ((bb + hh) + dl)), .second, .val (.long c2), .second, .val (.ref b17), .val (.long (q3 + (own_fd (p6.toInt64) (1000000 : Int64)))), .second, .val (.long (own_rr q3 c2 (p6.toInt64) dl hh h2)), .second, .val (.long (dl / (1000 : Int64))), .second, .val (.long (own_lo hh dl)), .second, .val (.long (own_hi hh dl)), .second, .val (.long (c2 + (own_f1 ((p6.toInt64) - dl)))), .second, .val (.long (q3 + (own_f1 (p6.toInt64)))), .second, .val (.int (1 : Int32)), .unset] [(.int (1 : Int32))])) _
      refine XS.goto X77.here hx rfl (pc0 := 268) (pc' := 272) rfl (hb hby at_268) (by decide) (by decide) ?_
      show Steps p.tables e below (T77.setTop (mkF m 272 #[.val (.long q1), .second, .val (.long q2), .second, .val (.long q3), .second, .val (.long q4), .second, .val (.long q5), .second, .val (.int p6), .val (.long bb), .second, .val (.long dd), .second, .val (.long hh), .second, .val (.long (bb + hh)), .second, .val (.long dl), .second, .val (.long ss), .second, .val (.long h2), .second, .val (.long ee), .second, .val (.long ((bb + hh) + dl)), .second, .val (.long c2), .second, .val (.ref b17), .val (.long (q3 + (own_fd (p6.toInt64) (1000000 : Int64)))), .second, .val (.long (own_rr q3 c2 (p6.toInt64) dl hh h2)), .second, .val (.long (dl / (1000 : Int64))), .second, .val (.long (own_lo hh dl)), .second, .val (.long (own_hi hh dl)), .second, .val (.long (c2 + (own_f1 ((p6.toInt64) - dl)))), .second, .val (.long (q3 + (own_f1 (p6.toInt64)))), .second, .val (.int (1 : Int32)), .unset] [(.int (1 : Int32))])) _
      refine XS.istore X77.here hx rfl (hb hby at_272) rfl (l' := #[.val (.long q1), .second, .val (.long q2), .second, .val (.long q3), .second, .val (.long q4), .second, .val (.long q5), .second, .val (.int p6), .val (.long bb), .second, .val (.long dd), .second, .val (.long hh), .second, .val (.long (bb + hh)), .second, .val (.long dl), .second, .val (.long ss), .second, .val (.long h2), .second, .val (.long ee), .second, .val (.long ((bb + hh) + dl)), .second, .val (.long c2), .second, .val (.ref b17), .val (.long (q3 + (own_fd (p6.toInt64) (1000000 : Int64)))), .second, .val (.long (own_rr q3 c2 (p6.toInt64) dl hh h2)), .second, .val (.long (dl / (1000 : Int64))), .second, .val (.long (own_lo hh dl)), .second, .val (.long (own_hi hh dl)), .second, .val (.long (c2 + (own_f1 ((p6.toInt64) - dl)))), .second, .val (.long (q3 + (own_f1 (p6.toInt64)))), .second, .val (.int (1 : Int32)), .val (.int (1 : Int32))]) rfl ?_
      show Steps p.tables e below (T77.setTop (mkF m 274 #[.val (.long q1), .second, .val (.long q2), .second, .val (.long q3), .second, .val (.long q4), .second, .val (.long q5), .second, .val (.int p6), .val (.long bb), .second, .val (.long dd), .second, .val (.long hh), .second, .val (.long (bb + hh)), .second, .val (.long dl), .second, .val (.long ss), .second, .val (.long h2), .second, .val (.long ee), .second, .val (.long ((bb + hh) + dl)), .second, .val (.long c2), .second, .val (.ref b17), .val (.long (q3 + (own_fd (p6.toInt64) (1000000 : Int64)))), .second, .val (.long (own_rr q3 c2 (p6.toInt64) dl hh h2)), .second, .val (.long (dl / (1000 : Int64))), .second, .val (.long (own_lo hh dl)), .second, .val (.long (own_hi hh dl)), .second, .val (.long (c2 + (own_f1 ((p6.toInt64) - dl)))), .second, .val (.long (q3 + (own_f1 (p6.toInt64)))), .second, .val (.int (1 : Int32)), .val (.int (1 : Int32))] [])) _
      refine XS.goto X77.here hx rfl (pc0 := 274) (pc' := 326) rfl (hb hby at_274) (by decide) (by decide) ?_
      show Steps p.tables e below (T77.setTop (mkF m 326 #[.val (.long q1), .second, .val (.long q2), .second, .val (.long q3), .second, .val (.long q4), .second, .val (.long q5), .second, .val (.int p6), .val (.long bb), .second, .val (.long dd), .second, .val (.long hh), .second, .val (.long (bb + hh)), .second, .val (.long dl), .second, .val (.long ss), .second, .val (.long h2), .second, .val (.long ee), .second, .val (.long ((bb + hh) + dl)), .second, .val (.long c2), .second, .val (.ref b17), .val (.long (q3 + (own_fd (p6.toInt64) (1000000 : Int64)))), .second, .val (.long (own_rr q3 c2 (p6.toInt64) dl hh h2)), .second, .val (.long (dl / (1000 : Int64))), .second, .val (.long (own_lo hh dl)), .second, .val (.long (own_hi hh dl)), .second, .val (.long (c2 + (own_f1 ((p6.toInt64) - dl)))), .second, .val (.long (q3 + (own_f1 (p6.toInt64)))), .second, .val (.int (1 : Int32)), .val (.int (1 : Int32))] [])) _
      refine XS.iload X77.here hx rfl (hb hby at_326) rfl ?_
      show Steps p.tables e below (T77.setTop (mkF m 328 #[.val (.long q1), .second, .val (.long q2), .second, .val (.long q3), .second, .val (.long q4), .second, .val (.long q5), .second, .val (.int p6), .val (.long bb), .second, .val (.long dd), .second, .val (.long hh), .second, .val (.long (bb + hh)), .second, .val (.long dl), .second, .val (.long ss), .second, .val (.long h2), .second, .val (.long ee), .second, .val (.long ((bb + hh) + dl)), .second, .val (.long c2), .second, .val (.ref b17), .val (.long (q3 + (own_fd (p6.toInt64) (1000000 : Int64)))), .second, .val (.long (own_rr q3 c2 (p6.toInt64) dl hh h2)), .second, .val (.long (dl / (1000 : Int64))), .second, .val (.long (own_lo hh dl)), .second, .val (.long (own_hi hh dl)), .second, .val (.long (c2 + (own_f1 ((p6.toInt64) - dl)))), .second, .val (.long (q3 + (own_f1 (p6.toInt64)))), .second, .val (.int (1 : Int32)), .val (.int (1 : Int32))] [(.int (1 : Int32))])) _
      refine XS.ifNo X77.here hx rfl (hb hby at_328) rfl ((if0 _ _).trans (feq (by decide : ¬ ((1 : Int32) = (0 : Int32)))).1) ?_
      show Steps p.tables e below (T77.setTop (mkF m 331 #[.val (.long q1), .second, .val (.long q2), .second, .val (.long q3), .second, .val (.long q4), .second, .val (.long q5), .second, .val (.int p6), .val (.long bb), .second, .val (.long dd), .second, .val (.long hh), .second, .val (.long (bb + hh)), .second, .val (.long dl), .second, .val (.long ss), .second, .val (.long h2), .second, .val (.long ee), .second, .val (.long ((bb + hh) + dl)), .second, .val (.long c2), .second, .val (.ref b17), .val (.long (q3 + (own_fd (p6.toInt64) (1000000 : Int64)))), .second, .val (.long (own_rr q3 c2 (p6.toInt64) dl hh h2)), .second, .val (.long (dl / (1000 : Int64))), .second, .val (.long (own_lo hh dl)), .second, .val (.long (own_hi hh dl)), .second, .val (.long (c2 + (own_f1 ((p6.toInt64) - dl)))), .second, .val (.long (q3 + (own_f1 (p6.toInt64)))), .second, .val (.int (1 : Int32)), .val (.int (1 : Int32))] [])) _
      refine XS.iload X77.here hx rfl (hb hby at_331) rfl ?_
      show Steps p.tables e below (T77.setTop (mkF m 333 #[.val (.long q1), .second, .val (.long q2), .second, .val (.long q3), .second, .val (.long q4), .second, .val (.long q5), .second, .val (.int p6), .val (.long bb), .second, .val (.long dd), .second, .val (.long hh), .second, .val (.long (bb + hh)), .second, .val (.long dl), .second, .val (.long ss), .second, .val (.long h2), .second, .val (.long ee), .second, .val (.long ((bb + hh) + dl)), .second, .val (.long c2), .second, .val (.ref b17), .val (.long (q3 + (own_fd (p6.toInt64) (1000000 : Int64)))), .second, .val (.long (own_rr q3 c2 (p6.toInt64) dl hh h2)), .second, .val (.long (dl / (1000 : Int64))), .second, .val (.long (own_lo hh dl)), .second, .val (.long (own_hi hh dl)), .second, .val (.long (c2 + (own_f1 ((p6.toInt64) - dl)))), .second, .val (.long (q3 + (own_f1 (p6.toInt64)))), .second, .val (.int (1 : Int32)), .val (.int (1 : Int32))] [(.int (1 : Int32))])) _
      refine XS.ifNo X77.here hx rfl (hb hby at_333) rfl ((if0 _ _).trans (feq (by decide : ¬ ((1 : Int32) = (0 : Int32)))).1) ?_
      show Steps p.tables e below (T77.setTop (mkF m 336 #[.val (.long q1), .second, .val (.long q2), .second, .val (.long q3), .second, .val (.long q4), .second, .val (.long q5), .second, .val (.int p6), .val (.long bb), .second, .val (.long dd), .second, .val (.long hh), .second, .val (.long (bb + hh)), .second, .val (.long dl), .second, .val (.long ss), .second, .val (.long h2), .second, .val (.long ee), .second, .val (.long ((bb + hh) + dl)), .second, .val (.long c2), .second, .val (.ref b17), .val (.long (q3 + (own_fd (p6.toInt64) (1000000 : Int64)))), .second, .val (.long (own_rr q3 c2 (p6.toInt64) dl hh h2)), .second, .val (.long (dl / (1000 : Int64))), .second, .val (.long (own_lo hh dl)), .second, .val (.long (own_hi hh dl)), .second, .val (.long (c2 + (own_f1 ((p6.toInt64) - dl)))), .second, .val (.long (q3 + (own_f1 (p6.toInt64)))), .second, .val (.int (1 : Int32)), .val (.int (1 : Int32))] [])) _
      refine XS.iconst X77.here hx rfl (hb hby at_336) ?_
      show Steps p.tables e below (T77.setTop (mkF m 337 #[.val (.long q1), .second, .val (.long q2), .second, .val (.long q3), .second, .val (.long q4), .second, .val (.long q5), .second, .val (.int p6), .val (.long bb), .second, .val (.long dd), .second, .val (.long hh), .second, .val (.long (bb + hh)), .second, .val (.long dl), .second, .val (.long ss), .second, .val (.long h2), .second, .val (.long ee), .second, .val (.long ((bb + hh) + dl)), .second, .val (.long c2), .second, .val (.ref b17), .val (.long (q3 + (own_fd (p6.toInt64) (1000000 : Int64)))), .second, .val (.long (own_rr q3 c2 (p6.toInt64) dl hh h2)), .second, .val (.long (dl / (1000 : Int64))), .second, .val (.long (own_lo hh dl)), .second, .val (.long (own_hi hh dl)), .second, .val (.long (c2 + (own_f1 ((p6.toInt64) - dl)))), .second, .val (.long (q3 + (own_f1 (p6.toInt64)))), .second, .val (.int (1 : Int32)), .val (.int (1 : Int32))] [(.int (1 : Int32))])) _
      refine XS.goto X77.here hx rfl (pc0 := 337) (pc' := 341) rfl (hb hby at_337) (by decide) (by decide) ?_
      show Steps p.tables e below (T77.setTop (mkF m 341 #[.val (.long q1), .second, .val (.long q2), .second, .val (.long q3), .second, .val (.long q4), .second, .val (.long q5), .second, .val (.int p6), .val (.long bb), .second, .val (.long dd), .second, .val (.long hh), .second, .val (.long (bb + hh)), .second, .val (.long dl), .second, .val (.long ss), .second, .val (.long h2), .second, .val (.long ee), .second, .val (.long ((bb + hh) + dl)), .second, .val (.long c2), .second, .val (.ref b17), .val (.long (q3 + (own_fd (p6.toInt64) (1000000 : Int64)))), .second, .val (.long (own_rr q3 c2 (p6.toInt64) dl hh h2)), .second, .val (.long (dl / (1000 : Int64))), .second, .val (.long (own_lo hh dl)), .second, .val (.long (own_hi hh dl)), .second, .val (.long (c2 + (own_f1 ((p6.toInt64) - dl)))), .second, .val (.long (q3 + (own_f1 (p6.toInt64)))), .second, .val (.int (1 : Int32)), .val (.int (1 : Int32))] [(.int (1 : Int32))])) _
      exact kt
    obtain ⟨fs, hr, hrun, hended, hW, hsame⟩ := X77.leave (v := some (.int (1 : Int32))) (fun h => by rw [Bd.returns] at h; cases h)
    refine ⟨_, _, fin _ (pre87 _ ?_), hrun, hended, _, _, rfl, ?_, ⟨_, rfl⟩, hW, hsame.mono (by decide) (by decide)⟩
    · exact retN X77 hx (t := .boolean) Bd.returns (by simp) (hb hby at_341) hr
    · show Q0 Z q1 q2 q3 q4 q5 p6 h0 n0 _ T77.heap _
      rw [eq77]
      exact ⟨rfl, N77⟩

set_option maxRecDepth 65536 in
set_option maxHeartbeats 40000000 in
theorem comes_1 {Post : Tables → Env → Array Value → State → Outcome → State → Prop} (hpost : ∀ tb e args s v u, (limb_1_1.after args s (.returned v) u = true ∧ limb_1_2.after args s (.returned v) u = true ∧ True) → FrameEnd s (.returned v) u (Jvm.fieldLocs frame_1_writes args s ++ Jvm.arrayLocs frame_1_arrays args s ++ Jvm.staticLocs frame_1_statics s) 16 128 → Post tb e args s (.returned v) u) :
    ArmFor flags0 classFile x code maxLocals ret World_1 tables_1 room_1 Calls_1 rest_1 Pre_1 Post := by
  intro l hfl _ _ p e ha hc hk s m args below hf hA hF happ hP
  obtain ⟨hcalls, hrest, hpre⟩ := hP
  obtain ⟨-, -, -, hnamed, -, -, -, hat⟩ := (Spec.applies_iff hf).mp happ
  obtain ⟨hg, hn⟩ := and_e (Cond.before_iff.mp (show (Jvm.Cond.and given_1 narrow_1).before args s = true from hpre))
  obtain ⟨hcount, hg0⟩ := and_e hg
  obtain ⟨ga0, hg1⟩ := and_e hg0
  obtain ⟨ga1, hg2⟩ := and_e hg1
  obtain ⟨ga2, hg3⟩ := and_e hg2
  obtain ⟨ga3, hg4⟩ := and_e hg3
  obtain ⟨ga4, hg5⟩ := and_e hg4
  have ga5 := hg5
  obtain ⟨w0, w1, w2, w3, w4, w5, rfl⟩ : ∃ w0 w1 w2 w3 w4 w5 : Value, args = #[w0, w1, w2, w3, w4, w5] := by
    have hs : args.size = 6 := by simpa [Cond.value, given_1] using hcount
    obtain ⟨L⟩ := args
    match L, hs with
    | [w0, w1, w2, w3, w4, w5], _ => exact ⟨w0, w1, w2, w3, w4, w5, rfl⟩
  have hw := fun d (hd : d ∈ tables_1) => atoms_spec (ws := Jvm.Cond.code x code maxLocals ret :: tables_1) hat d (List.mem_cons_of_mem _ hd)
  have hfit : Fit s := fun {y c} hc i hi => by
    obtain ⟨ha, rfl⟩ := Array.getElem?_eq_some_iff.mp hc
    have q := List.all_eq_true.mp ((Array.all_eq_true_iff_forall_mem.mp hF) _ (Array.getElem_mem ha)) i (List.mem_range.mpr hi)
    simpa [Array.getElem?_eq_getElem hi] using q
  obtain ⟨i0, ei0⟩ := isL_v ga0
  obtain rfl : w0 = (.long i0) := Option.some.inj ei0
  obtain ⟨i1, ei1⟩ := isL_v ga1
  obtain rfl : w1 = (.long i1) := Option.some.inj ei1
  obtain ⟨i2, ei2⟩ := isL_v ga2
  obtain rfl : w2 = (.long i2) := Option.some.inj ei2
  obtain ⟨i3, ei3⟩ := isL_v ga3
  obtain rfl : w3 = (.long i3) := Option.some.inj ei3
  obtain ⟨i4, ei4⟩ := isL_v ga4
  obtain rfl : w4 = (.long i4) := Option.some.inj ei4
  obtain ⟨i5, ei5⟩ := is_v ga5
  obtain rfl : w5 = (.int i5) := Option.some.inj ei5
  obtain ⟨n, o, h1, h2, h3, _, L, rfl, ⟨rfl, N⟩, hq⟩ := rm0 l s _ hw tables_1 i0 i1 i2 i3 i4 i5 s.heap s.heap.size (Nat.le_refl _)  p e ha hc hk s m _ below hf ((Spec.applies_iff_loose hf).mp happ).1 ⟨rfl, State.Warmed39.refl s, rfl⟩ trivial
  refine ⟨n, _, h1, h2, h3, hpost _ _ _ _ _ _ ⟨Cond.after_iff.mpr rfl, Cond.after_iff.mpr (eq_i res_at (Term.int_eval (1)) rfl), trivial⟩ ⟨hq.1, hq.2.1, (hq.2.2.sift fun y hy => Or.inr (N y hy)).mono (by decide) (by decide)⟩⟩
theorem main_1_1 : Claimed_1_1 := comes_1 fun _ _ _ _ _ _ h hF => ⟨h.1, hF⟩
theorem main_1_2 : Claimed_1_2 := comes_1 fun _ _ _ _ _ _ h hF => ⟨h.2.1, hF⟩

end Jvm.Pilot.@@N@@
namespace Jvm.Pilot.@@N@@
open Jvm Jvm.ClassFile Sem Op Lib Jvm.Free Jvm.Stand Jvm.Pilot.@@N@@.Jvm.D
/-! MADE BY PROGRAM (witnessworld.py) out of the Statement's table words and the real class files: 12 classes; the members and pool entries that the words name. The judged class is class 1, her method 2. -/
namespace start1
open Jvm.ClassFile
def u (s : String) : CpInfo := .utf8 (stringToUtf16 s)
/-- a pool by its gaps: so many unusable entries, then the entry; so many at the end -/
def gap : Nat → List CpInfo → List CpInfo
  | 0, r => r
  | n + 1, r => .unusable :: gap n r
def poolList (es : List (Nat × CpInfo)) (last : Nat) : List CpInfo := es.foldr (fun e r => gap e.1 (e.2 :: r)) (gap last [])
def pool (es : List (Nat × CpInfo)) (last : Nat) : Array CpInfo := ⟨poolList es last⟩
def fileOf (pool : Array CpInfo) (this : Nat) (attrs : Array Attribute := #[]) (ms : Array MethodInfo := #[]) (fl : Nat := 33) (sup : Nat := 0) (ifs : Array Nat := #[]) (fds : Array FieldInfo := #[]) : ClassFile where
  minorVersion := 0
  majorVersion := 65
  constantPool := pool
  accessFlags := fl
  thisClass := this
  superClass := sup
  interfaces := ifs
  fields := fds
  methods := ms
  attributes := attrs
def plain (name : String) (sup : Option ClassId) : Class where
  name := name
  kind := .ordinary
  loader := none
  accessFlags := 33
  super := sup
  interfaces := #[]
  cf := none
  fields := #[]
  methods := #[]
  instanceTypes := #[]
  staticTypes := #[]
  resolved := #[]
  callSites := []
  init := .initialized
  statics := none
  mirror := none

def pool0 : Array CpInfo := pool [(5, u "<init>"), (0, u "()V"), (1, .class_ 10), (1, u "java/lang/Object")] 113

def k0c0 : Code := { maxStack := 0, maxLocals := 1, code := object_method_1_code, exceptionTable := #[], attributes := #[] }
def k0m0 : Method := { name := "<init>", desc := "()V", sig := { parameters := [], returnType := none }, accessFlags := 1, code := some k0c0 }
/-- java/lang/Object -/
def k0 : Class := { plain "java/lang/Object" none with
  accessFlags := 33
  interfaces := #[]
  cf := some (fileOf pool0 8 #[] #[{ accessFlags := 1, nameIndex := 5, descriptorIndex := 6, attributes := #[] }] 33 0 #[] #[])
  fields := #[]
  methods := #[k0m0]
  instanceTypes := #[]
  staticTypes := #[]
  resolved := Array.replicate 124 none
  statics := none }

def pool1 : Array CpInfo := pool [(2, .class_ 4), (0, .nameAndType 5 6), (0, u "java/lang/Object"), (0, u "<init>"), (0, u "()V"), (0, .long 1000000), (1, .long 2305843009213693951), (1, .long 2), (1, .methodref 14 15), (0, .class_ 16), (0, .nameAndType 17 18), (0, u "java/lang/Math"), (0, u "abs"), (0, u "(J)J"), (0, .long 18446744073709551615), (1, .class_ 22), (0, u "com/example/backplane/backplane/ClusterClock"), (0, .methodref 21 3), (0, .methodref 21 25), (0, .nameAndType 26 27), (0, u "sample"), (0, u "(JJJ)V"), (0, .methodref 21 29), (0, .nameAndType 30 18), (0, u "at"), (0, .long 1000), (1, .methodref 34 35), (0, .class_ 36), (0, .nameAndType 37 18), (0, u "com/example/backplane/backplane/ClusterClockSamplePinLaw"), (0, u "fd"), (3, u "law"), (0, u "(JJJJJI)Z")] 2

def k1m0 : Method := { name := "<init>", desc := "()V", sig := { parameters := [], returnType := none }, accessFlags := 1, code := none }
def k1c1 : Code := { maxStack := 4, maxLocals := 4, code := method_2_code, exceptionTable := #[], attributes := #[] }
def k1m1 : Method := { name := "fd", desc := "(J)J", sig := { parameters := [.long], returnType := some .long }, accessFlags := 10, code := some k1c1 }
def k1c2 : Code := { maxStack := 9, maxLocals := 48, code := code, exceptionTable := #[], attributes := #[] }
def k1m2 : Method := { name := "law", desc := "(JJJJJI)Z", sig := { parameters := [.long, .long, .long, .long, .long, .int], returnType := some .boolean }, accessFlags := 9, code := some k1c2 }
/-- com/example/backplane/backplane/ClusterClockSamplePinLaw -/
def k1 : Class := { plain "com/example/backplane/backplane/ClusterClockSamplePinLaw" (some 0) with
  accessFlags := 49
  interfaces := #[]
  cf := some (fileOf pool1 34 #[] #[{ accessFlags := 1, nameIndex := 5, descriptorIndex := 6, attributes := #[] }, { accessFlags := 10, nameIndex := 37, descriptorIndex := 18, attributes := #[] }, { accessFlags := 9, nameIndex := 41, descriptorIndex := 42, attributes := #[] }] 49 2 #[] #[])
  fields := #[]
  methods := #[k1m0, k1m1, k1m2]
  instanceTypes := #[]
  staticTypes := #[]
  resolved := Array.replicate 45 none
  statics := none }

def pool2 : Array CpInfo := pool [(1, .class_ 2), (0, u "java/lang/Math"), (1, .class_ 6), (1, u "java/lang/Object"), (0, u "<init>"), (0, u "()V"), (89, .class_ 100), (1, u "java/lang/Math$RandomNumberGeneratorHolder"), (20, u "(JJ)J"), (2, u "abs"), (0, u "(J)J"), (19, u "floorDiv"), (26, u "negativeZeroFloatBits"), (0, u "J"), (2, u "negativeZeroDoubleBits"), (68, u "$assertionsDisabled"), (0, u "Z"), (91, u "twoToTheDoubleScaleDown"), (0, u "D"), (4, u "twoToTheDoubleScaleUp"), (9, u "E"), (3, u "PI"), (2, u "TAU"), (2, u "DEGREES_TO_RADIANS"), (0, u "RADIANS_TO_DEGREES")] 94

def k2m0 : Method := { name := "<init>", desc := "()V", sig := { parameters := [], returnType := none }, accessFlags := 2, code := none }
def k2c1 : Code := { maxStack := 4, maxLocals := 6, code := jdk_29_method_49_code, exceptionTable := #[], attributes := #[] }
def k2m1 : Method := { name := "floorDiv", desc := "(JJ)J", sig := { parameters := [.long, .long], returnType := some .long }, accessFlags := 9, code := some k2c1 }
def k2c2 : Code := { maxStack := 4, maxLocals := 2, code := jdk_29_method_61_code, exceptionTable := #[], attributes := #[] }
def k2m2 : Method := { name := "abs", desc := "(J)J", sig := { parameters := [.long], returnType := some .long }, accessFlags := 9, code := some k2c2 }
/-- java/lang/Math -/
def k2 : Class := { plain "java/lang/Math" (some 0) with
  accessFlags := 49
  interfaces := #[]
  cf := some (fileOf pool2 1 #[.nestMembers #[98]] #[{ accessFlags := 2, nameIndex := 7, descriptorIndex := 8, attributes := #[] }, { accessFlags := 9, nameIndex := 145, descriptorIndex := 121, attributes := #[] }, { accessFlags := 9, nameIndex := 124, descriptorIndex := 125, attributes := #[] }] 49 4 #[] #[{ accessFlags := 25, nameIndex := 354, descriptorIndex := 339, attributes := #[] }, { accessFlags := 25, nameIndex := 358, descriptorIndex := 339, attributes := #[] }, { accessFlags := 25, nameIndex := 361, descriptorIndex := 339, attributes := #[] }, { accessFlags := 26, nameIndex := 364, descriptorIndex := 339, attributes := #[] }, { accessFlags := 26, nameIndex := 365, descriptorIndex := 339, attributes := #[] }, { accessFlags := 26, nameIndex := 172, descriptorIndex := 173, attributes := #[] }, { accessFlags := 26, nameIndex := 176, descriptorIndex := 173, attributes := #[] }, { accessFlags := 8, nameIndex := 344, descriptorIndex := 339, attributes := #[] }, { accessFlags := 8, nameIndex := 338, descriptorIndex := 339, attributes := #[] }, { accessFlags := 4120, nameIndex := 245, descriptorIndex := 246, attributes := #[] }])
  fields := #[{ name := "E", type := .double, accessFlags := 25, slot := 0, constantValue := 0 }, { name := "PI", type := .double, accessFlags := 25, slot := 1, constantValue := 0 }, { name := "TAU", type := .double, accessFlags := 25, slot := 2, constantValue := 0 }, { name := "DEGREES_TO_RADIANS", type := .double, accessFlags := 26, slot := 3, constantValue := 0 }, { name := "RADIANS_TO_DEGREES", type := .double, accessFlags := 26, slot := 4, constantValue := 0 }, { name := "negativeZeroFloatBits", type := .long, accessFlags := 26, slot := 5, constantValue := 0 }, { name := "negativeZeroDoubleBits", type := .long, accessFlags := 26, slot := 6, constantValue := 0 }, { name := "twoToTheDoubleScaleUp", type := .double, accessFlags := 8, slot := 7, constantValue := 0 }, { name := "twoToTheDoubleScaleDown", type := .double, accessFlags := 8, slot := 8, constantValue := 0 }, { name := "$assertionsDisabled", type := .boolean, accessFlags := 4120, slot := 9, constantValue := 0 }]
  methods := #[k2m0, k2m1, k2m2]
  instanceTypes := #[]
  staticTypes := #[.double, .double, .double, .double, .double, .long, .long, .double, .double, .boolean]
  resolved := Array.replicate 460 none
  statics := none }

def pool3 : Array CpInfo := pool [(1, .methodref 2 3), (0, .class_ 4), (0, .nameAndType 5 6), (0, u "java/lang/Object"), (0, u "<init>"), (0, u "()V"), (5, u "()J"), (6, .class_ 21), (1, u "com/example/backplane/backplane/ClusterClock"), (0, u "sample"), (0, u "(JJJ)V"), (0, .long 2), (1, .class_ 27), (0, u "com/example/backplane/backplane/ClusterClock$Sample"), (0, .methodref 26 29), (0, .nameAndType 5 23), (0, .fieldref 19 31), (0, .nameAndType 22 32), (0, u "Lcom/example/backplane/backplane/ClusterClock$Sample;"), (0, .methodref 26 34), (0, .nameAndType 35 12), (0, u "errorNanos"), (0, .methodref 26 37), (0, .nameAndType 38 12), (0, u "atNanos"), (0, .methodref 26 40), (0, .nameAndType 41 42), (0, u "errorAt"), (0, u "(J)J"), (2, u "at"), (0, .methodref 26 47), (0, .nameAndType 48 12), (0, u "clusterMs"), (0, .long 1000000), (1, .methodref 52 53), (0, .class_ 54), (0, .nameAndType 55 56), (0, u "java/lang/Math"), (0, u "floorDiv"), (0, u "(JJ)J"), (0, u "DRIFT"), (0, u "D")] 14

def k3c0 : Code := { maxStack := 1, maxLocals := 1, code := prog_1_method_1_code, exceptionTable := #[], attributes := #[] }
def k3m0 : Method := { name := "<init>", desc := "()V", sig := { parameters := [], returnType := none }, accessFlags := 0, code := some k3c0 }
def k3c1 : Code := { maxStack := 8, maxLocals := 11, code := prog_1_method_3_code, exceptionTable := #[], attributes := #[] }
def k3m1 : Method := { name := "sample", desc := "(JJJ)V", sig := { parameters := [.long, .long, .long], returnType := none }, accessFlags := 0, code := some k3c1 }
def k3c2 : Code := { maxStack := 6, maxLocals := 4, code := prog_1_method_5_code, exceptionTable := #[], attributes := #[] }
def k3m2 : Method := { name := "at", desc := "(J)J", sig := { parameters := [.long], returnType := some .long }, accessFlags := 0, code := some k3c2 }
/-- com/example/backplane/backplane/ClusterClock -/
def k3 : Class := { plain "com/example/backplane/backplane/ClusterClock" (some 0) with
  accessFlags := 32
  interfaces := #[]
  cf := some (fileOf pool3 19 #[.nestMembers #[26]] #[{ accessFlags := 0, nameIndex := 5, descriptorIndex := 6, attributes := #[] }, { accessFlags := 0, nameIndex := 22, descriptorIndex := 23, attributes := #[] }, { accessFlags := 0, nameIndex := 45, descriptorIndex := 42, attributes := #[] }] 32 2 #[] #[{ accessFlags := 26, nameIndex := 57, descriptorIndex := 58, attributes := #[] }, { accessFlags := 66, nameIndex := 22, descriptorIndex := 32, attributes := #[] }])
  fields := #[{ name := "DRIFT", type := .double, accessFlags := 26, slot := 0, constantValue := 0 }, { name := "sample", type := (.object "com/example/backplane/backplane/ClusterClock$Sample"), accessFlags := 66, slot := 0, constantValue := 0 }]
  methods := #[k3m0, k3m1, k3m2]
  instanceTypes := #[(.object "com/example/backplane/backplane/ClusterClock$Sample")]
  staticTypes := #[.double]
  resolved := ((Array.replicate 73 none).setIfInBounds 26 (some (.cls 5))).setIfInBounds 28 (some (.method ⟨5, 0⟩))
  statics := none }

def pool4 : Array CpInfo := pool [(1, .methodref 2 3), (0, .class_ 4), (0, .nameAndType 5 6), (0, u "java/lang/Object"), (0, u "<init>"), (0, u "()V"), (0, .class_ 8), (0, u "java/lang/Record")] 13

def k4c0 : Code := { maxStack := 1, maxLocals := 1, code := jdk_30_method_1_code, exceptionTable := #[], attributes := #[] }
def k4m0 : Method := { name := "<init>", desc := "()V", sig := { parameters := [], returnType := none }, accessFlags := 4, code := some k4c0 }
/-- java/lang/Record -/
def k4 : Class := { plain "java/lang/Record" (some 0) with
  accessFlags := 1057
  interfaces := #[]
  cf := some (fileOf pool4 7 #[] #[{ accessFlags := 4, nameIndex := 5, descriptorIndex := 6, attributes := #[] }] 1057 2 #[] #[])
  fields := #[]
  methods := #[k4m0]
  instanceTypes := #[]
  staticTypes := #[]
  resolved := Array.replicate 22 none
  statics := none }

def pool5 : Array CpInfo := pool [(1, .class_ 2), (0, u "com/example/backplane/backplane/ClusterClock"), (0, .methodref 4 5), (0, .class_ 6), (0, .nameAndType 7 8), (0, u "java/lang/Record"), (0, u "<init>"), (0, u "()V"), (0, .fieldref 10 11), (0, .class_ 12), (0, .nameAndType 13 14), (0, u "com/example/backplane/backplane/ClusterClock$Sample"), (0, u "clusterMs"), (0, u "J"), (0, .fieldref 10 16), (0, .nameAndType 17 14), (0, u "atNanos"), (0, .fieldref 10 19), (0, .nameAndType 20 14), (0, u "errorNanos"), (0, .double 4562254508917369340), (13, u "(JJJ)V"), (3, u "errorAt"), (0, u "(J)J"), (3, u "()J")] 24

def k5c0 : Code := { maxStack := 3, maxLocals := 7, code := prog_2_method_1_code, exceptionTable := #[], attributes := #[] }
def k5m0 : Method := { name := "<init>", desc := "(JJJ)V", sig := { parameters := [.long, .long, .long], returnType := none }, accessFlags := 2, code := some k5c0 }
def k5c1 : Code := { maxStack := 6, maxLocals := 3, code := prog_2_method_2_code, exceptionTable := #[], attributes := #[] }
def k5m1 : Method := { name := "errorAt", desc := "(J)J", sig := { parameters := [.long], returnType := some .long }, accessFlags := 0, code := some k5c1 }
def k5c2 : Code := { maxStack := 2, maxLocals := 1, code := prog_2_method_6_code, exceptionTable := #[], attributes := #[] }
def k5m2 : Method := { name := "clusterMs", desc := "()J", sig := { parameters := [], returnType := some .long }, accessFlags := 1, code := some k5c2 }
def k5c3 : Code := { maxStack := 2, maxLocals := 1, code := prog_2_method_7_code, exceptionTable := #[], attributes := #[] }
def k5m3 : Method := { name := "atNanos", desc := "()J", sig := { parameters := [], returnType := some .long }, accessFlags := 1, code := some k5c3 }
def k5c4 : Code := { maxStack := 2, maxLocals := 1, code := prog_2_method_8_code, exceptionTable := #[], attributes := #[] }
def k5m4 : Method := { name := "errorNanos", desc := "()J", sig := { parameters := [], returnType := some .long }, accessFlags := 1, code := some k5c4 }
/-- com/example/backplane/backplane/ClusterClock$Sample -/
def k5 : Class := { plain "com/example/backplane/backplane/ClusterClock$Sample" (some 4) with
  accessFlags := 48
  interfaces := #[]
  cf := some (fileOf pool5 10 #[.nestHost 1] #[{ accessFlags := 2, nameIndex := 7, descriptorIndex := 35, attributes := #[] }, { accessFlags := 0, nameIndex := 39, descriptorIndex := 40, attributes := #[] }, { accessFlags := 1, nameIndex := 13, descriptorIndex := 44, attributes := #[] }, { accessFlags := 1, nameIndex := 17, descriptorIndex := 44, attributes := #[] }, { accessFlags := 1, nameIndex := 20, descriptorIndex := 44, attributes := #[] }] 48 4 #[] #[{ accessFlags := 18, nameIndex := 13, descriptorIndex := 14, attributes := #[] }, { accessFlags := 18, nameIndex := 17, descriptorIndex := 14, attributes := #[] }, { accessFlags := 18, nameIndex := 20, descriptorIndex := 14, attributes := #[] }])
  fields := #[{ name := "clusterMs", type := .long, accessFlags := 18, slot := 0, constantValue := 0 }, { name := "atNanos", type := .long, accessFlags := 18, slot := 1, constantValue := 0 }, { name := "errorNanos", type := .long, accessFlags := 18, slot := 2, constantValue := 0 }]
  methods := #[k5m0, k5m1, k5m2, k5m3, k5m4]
  instanceTypes := #[.long, .long, .long]
  staticTypes := #[]
  resolved := Array.replicate 69 none
  statics := none }

def pool6 : Array CpInfo := pool [(1, u "java/lang/Cloneable"), (0, .class_ 1), (0, u "java/lang/Object"), (0, .class_ 3)] 3

/-- java/lang/Cloneable -/
def k6 : Class := { plain "java/lang/Cloneable" (some 0) with
  accessFlags := 1537
  interfaces := #[]
  cf := some (fileOf pool6 2 #[] #[] 1537 4 #[] #[])
  fields := #[]
  methods := #[]
  instanceTypes := #[]
  staticTypes := #[]
  resolved := Array.replicate 8 none
  statics := none }

def pool7 : Array CpInfo := pool [(1, u "java/io/Serializable"), (0, .class_ 1), (0, u "java/lang/Object"), (0, .class_ 3)] 3

/-- java/io/Serializable -/
def k7 : Class := { plain "java/io/Serializable" (some 0) with
  accessFlags := 1537
  interfaces := #[]
  cf := some (fileOf pool7 2 #[] #[] 1537 4 #[] #[])
  fields := #[]
  methods := #[]
  instanceTypes := #[]
  staticTypes := #[]
  resolved := Array.replicate 8 none
  statics := none }

/-- the primitive byte -/
def k8 : Class := { plain "byte" none with kind := .primitive 'B', accessFlags := 0x411 }
/-- [B -/
def k9 : Class := { plain "[B" (some 0) with kind := .array 8 .byte, interfaces := #[6, 7], accessFlags := 1041 }

/-- the primitive int -/
def k10 : Class := { plain "int" none with kind := .primitive 'I', accessFlags := 0x411 }
/-- [I -/
def k11 : Class := { plain "[I" (some 0) with kind := .array 10 .int, interfaces := #[6, 7], accessFlags := 1041 }

def heap : Heap := #[]
def classes : Array Class := #[k0, k1, k2, k3, k4, k5, k6, k7, k8, k9, k10, k11]
def interned : List (Array UInt16 × Addr) := []
def slotsUsed : Nat := 0
def theMethod : MethodId := ⟨1, 2⟩
def args0 : Array Value := #[.long 5, .long 3, .long 4, .long 6, .long 7, .int 8]
def aboutOver (below : List Frame) : State where
  vm := { classes := classes, interned := interned.toArray }
  heap := heap
  slotsUsed := slotsUsed
  threads := #[{ frames := .invoking theMethod args0 :: below }]
def below0 : List Frame := [.native { method := ⟨0, 0⟩, args := #[] }]
def about1 : State := aboutOver below0
def p0 : Program := .bare "" "" ""
def e0 : Env := launch0.env 0 0 0
theorem w_frames : about1.frames = Frame.invoking theMethod args0 :: below0 := rfl
set_option maxRecDepth 65536 in
theorem w_args : argsFit about1.vm theMethod args0 = true := by decide +kernel
set_option maxRecDepth 65536 in
theorem w_heap : heapFits about1 = true := by decide +kernel
set_option maxRecDepth 65536 in
theorem w_runnable : about1.curStatus? = some .runnable := by decide +kernel
set_option maxRecDepth 65536 in
theorem w_alone : about1.alone = true := by decide +kernel
set_option maxRecDepth 65536 in
theorem w_named : about1.methodNamed? x = some theMethod := by decide +kernel
set_option maxRecDepth 65536 in
theorem w_hears : about1.hears theMethod below0 = true := by decide +kernel
set_option maxRecDepth 65536 in
theorem w_ripe : about1.ripe theMethod args0 below0 = true := by decide +kernel
theorem w_running : about1.status = .running := rfl
set_option maxRecDepth 65536 in
theorem w_room : about1.hasRoom e0.platform room_1 = true :=
  launch0.hasRoom_least _ room_1 (by decide +kernel) (by decide +kernel) (by decide +kernel) (by decide +kernel) (by decide +kernel) (by decide +kernel)
theorem allAtoms_all (ts : List Jvm.Cond) (a : Array Jvm.Value) (st : Jvm.State) : (allAtoms ts).before a st = ts.all (fun c => c.before a st) := by
  induction ts with
  | nil => rfl
  | cons c t ih =>
    show (Jvm.Cond.and c (allAtoms t)).before a st = _
    rw [Jvm.Cond.before_and, ih, List.all_cons]
def words1 : List Jvm.Cond := Jvm.Cond.code x code maxLocals ret :: tables_1
/-- a 'code' word, met by the world's own term for the bytes: nothing is compared byte by byte -/
theorem code_word {y : MethodName} {bytes : ByteArray} {mx : Nat} {rt : Option FieldType} {a : Array Value} {s : State} {m : MethodId} {meth : Method} {c : Code} (h1 : s.methodNamed? y = some m) (h2 : s.vm.method? m = some meth) (h3 : meth.code = some c) (h4 : c.code = bytes)
    (h5 : (c.maxLocals == mx && c.exceptionTable.isEmpty && decide (c.maxStack ≤ mostOperands) && decide (meth.sig.returnType = rt) && !meth.locks && decide (parseMethodDescriptor y.desc = some meth.sig)) = true) : (Jvm.Cond.code y bytes mx rt).before a s = true := by
  simp only [Bool.and_eq_true, beq_iff_eq, Bool.not_eq_true', decide_eq_true_eq] at h5
  obtain ⟨⟨⟨⟨⟨g1, g2⟩, g3⟩, g4⟩, g5⟩, g6⟩ := h5
  simp [Cond.before, Cond.holds, Cond.value, h1, h2, h3, h4, g1, g2, g3, g4, g5, g6]
def isCode : Jvm.Cond → Bool
  | .code _ _ _ _ => true
  | _ => false
theorem all_split {L : List Jvm.Cond} {P : Jvm.Cond → Bool} (h1 : L.all (fun c => isCode c || P c) = true) (h2 : ∀ c ∈ L.filter isCode, P c = true) : L.all P = true := by
  refine List.all_eq_true.mpr fun c hc => ?_
  have h := List.all_eq_true.mp h1 c hc
  rcases Bool.eq_false_or_eq_true (isCode c) with hi | hi
  · exact h2 c (List.mem_filter.mpr ⟨hc, hi⟩)
  · simpa [hi] using h
set_option maxRecDepth 65536 in
theorem w_c0 : (Jvm.Cond.code x code maxLocals ret).before args0 about1 = true := code_word (m := ⟨1, 2⟩) (meth := k1m2) (c := k1c2) (by decide +kernel) rfl rfl rfl (by decide +kernel)
set_option maxRecDepth 65536 in
theorem w_c1 : (Jvm.Cond.code ({ cls := "java/lang/Math", name := "abs", desc := "(J)J" } : Jvm.MethodName) jdk_29_method_61_code (2 : Nat) (Option.some Jvm.ClassFile.FieldType.long)).before args0 about1 = true := code_word (m := ⟨2, 2⟩) (meth := k2m2) (c := k2c2) (by decide +kernel) rfl rfl rfl (by decide +kernel)
set_option maxRecDepth 65536 in
theorem w_c2 : (Jvm.Cond.code ({ cls := "com/example/backplane/backplane/ClusterClock", name := "<init>", desc := "()V" } : Jvm.MethodName) prog_1_method_1_code (1 : Nat) (Option.none : Option Jvm.ClassFile.FieldType)).before args0 about1 = true := code_word (m := ⟨3, 0⟩) (meth := k3m0) (c := k3c0) (by decide +kernel) rfl rfl rfl (by decide +kernel)
set_option maxRecDepth 65536 in
theorem w_c3 : (Jvm.Cond.code ({ cls := "java/lang/Object", name := "<init>", desc := "()V" } : Jvm.MethodName) object_method_1_code (1 : Nat) (Option.none : Option Jvm.ClassFile.FieldType)).before args0 about1 = true := code_word (m := ⟨0, 0⟩) (meth := k0m0) (c := k0c0) (by decide +kernel) rfl rfl rfl (by decide +kernel)
set_option maxRecDepth 65536 in
theorem w_c4 : (Jvm.Cond.code ({ cls := "com/example/backplane/backplane/ClusterClock", name := "sample", desc := "(JJJ)V" } : Jvm.MethodName) prog_1_method_3_code (11 : Nat) (Option.none : Option Jvm.ClassFile.FieldType)).before args0 about1 = true := code_word (m := ⟨3, 1⟩) (meth := k3m1) (c := k3c1) (by decide +kernel) rfl rfl rfl (by decide +kernel)
set_option maxRecDepth 65536 in
theorem w_c5 : (Jvm.Cond.code ({ cls := "com/example/backplane/backplane/ClusterClock$Sample", name := "<init>", desc := "(JJJ)V" } : Jvm.MethodName) prog_2_method_1_code (7 : Nat) (Option.none : Option Jvm.ClassFile.FieldType)).before args0 about1 = true := code_word (m := ⟨5, 0⟩) (meth := k5m0) (c := k5c0) (by decide +kernel) rfl rfl rfl (by decide +kernel)
set_option maxRecDepth 65536 in
theorem w_c6 : (Jvm.Cond.code ({ cls := "java/lang/Record", name := "<init>", desc := "()V" } : Jvm.MethodName) jdk_30_method_1_code (1 : Nat) (Option.none : Option Jvm.ClassFile.FieldType)).before args0 about1 = true := code_word (m := ⟨4, 0⟩) (meth := k4m0) (c := k4c0) (by decide +kernel) rfl rfl rfl (by decide +kernel)
set_option maxRecDepth 65536 in
theorem w_c7 : (Jvm.Cond.code ({ cls := "com/example/backplane/backplane/ClusterClock", name := "at", desc := "(J)J" } : Jvm.MethodName) prog_1_method_5_code (4 : Nat) (Option.some Jvm.ClassFile.FieldType.long)).before args0 about1 = true := code_word (m := ⟨3, 2⟩) (meth := k3m2) (c := k3c2) (by decide +kernel) rfl rfl rfl (by decide +kernel)
set_option maxRecDepth 65536 in
theorem w_c8 : (Jvm.Cond.code ({ cls := "com/example/backplane/backplane/ClusterClock$Sample", name := "clusterMs", desc := "()J" } : Jvm.MethodName) prog_2_method_6_code (1 : Nat) (Option.some Jvm.ClassFile.FieldType.long)).before args0 about1 = true := code_word (m := ⟨5, 2⟩) (meth := k5m2) (c := k5c2) (by decide +kernel) rfl rfl rfl (by decide +kernel)
set_option maxRecDepth 65536 in
theorem w_c9 : (Jvm.Cond.code ({ cls := "com/example/backplane/backplane/ClusterClock$Sample", name := "atNanos", desc := "()J" } : Jvm.MethodName) prog_2_method_7_code (1 : Nat) (Option.some Jvm.ClassFile.FieldType.long)).before args0 about1 = true := code_word (m := ⟨5, 3⟩) (meth := k5m3) (c := k5c3) (by decide +kernel) rfl rfl rfl (by decide +kernel)
set_option maxRecDepth 65536 in
theorem w_c10 : (Jvm.Cond.code ({ cls := "java/lang/Math", name := "floorDiv", desc := "(JJ)J" } : Jvm.MethodName) jdk_29_method_49_code (6 : Nat) (Option.some Jvm.ClassFile.FieldType.long)).before args0 about1 = true := code_word (m := ⟨2, 1⟩) (meth := k2m1) (c := k2c1) (by decide +kernel) rfl rfl rfl (by decide +kernel)
set_option maxRecDepth 65536 in
theorem w_c11 : (Jvm.Cond.code ({ cls := "com/example/backplane/backplane/ClusterClock$Sample", name := "errorNanos", desc := "()J" } : Jvm.MethodName) prog_2_method_8_code (1 : Nat) (Option.some Jvm.ClassFile.FieldType.long)).before args0 about1 = true := code_word (m := ⟨5, 4⟩) (meth := k5m4) (c := k5c4) (by decide +kernel) rfl rfl rfl (by decide +kernel)
set_option maxRecDepth 65536 in
theorem w_c12 : (Jvm.Cond.code ({ cls := "com/example/backplane/backplane/ClusterClock$Sample", name := "errorAt", desc := "(J)J" } : Jvm.MethodName) prog_2_method_2_code (3 : Nat) (Option.some Jvm.ClassFile.FieldType.long)).before args0 about1 = true := code_word (m := ⟨5, 1⟩) (meth := k5m1) (c := k5c1) (by decide +kernel) rfl rfl rfl (by decide +kernel)
set_option maxRecDepth 65536 in
theorem w_c13 : (Jvm.Cond.code ({ cls := "com/example/backplane/backplane/ClusterClockSamplePinLaw", name := "fd", desc := "(J)J" } : Jvm.MethodName) method_2_code (4 : Nat) (Option.some Jvm.ClassFile.FieldType.long)).before args0 about1 = true := code_word (m := ⟨1, 1⟩) (meth := k1m1) (c := k1c1) (by decide +kernel) rfl rfl rfl (by decide +kernel)
def codes1 : List Jvm.Cond := [Jvm.Cond.code x code maxLocals ret, Jvm.Cond.code ({ cls := "java/lang/Math", name := "abs", desc := "(J)J" } : Jvm.MethodName) jdk_29_method_61_code (2 : Nat) (Option.some Jvm.ClassFile.FieldType.long), Jvm.Cond.code ({ cls := "com/example/backplane/backplane/ClusterClock", name := "<init>", desc := "()V" } : Jvm.MethodName) prog_1_method_1_code (1 : Nat) (Option.none : Option Jvm.ClassFile.FieldType), Jvm.Cond.code ({ cls := "java/lang/Object", name := "<init>", desc := "()V" } : Jvm.MethodName) object_method_1_code (1 : Nat) (Option.none : Option Jvm.ClassFile.FieldType), Jvm.Cond.code ({ cls := "com/example/backplane/backplane/ClusterClock", name := "sample", desc := "(JJJ)V" } : Jvm.MethodName) prog_1_method_3_code (11 : Nat) (Option.none : Option Jvm.ClassFile.FieldType), Jvm.Cond.code ({ cls := "com/example/backplane/backplane/ClusterClock$Sample", name := "<init>", desc := "(JJJ)V" } : Jvm.MethodName) prog_2_method_1_code (7 : Nat) (Option.none : Option Jvm.ClassFile.FieldType), Jvm.Cond.code ({ cls := "java/lang/Record", name := "<init>", desc := "()V" } : Jvm.MethodName) jdk_30_method_1_code (1 : Nat) (Option.none : Option Jvm.ClassFile.FieldType), Jvm.Cond.code ({ cls := "com/example/backplane/backplane/ClusterClock", name := "at", desc := "(J)J" } : Jvm.MethodName) prog_1_method_5_code (4 : Nat) (Option.some Jvm.ClassFile.FieldType.long), Jvm.Cond.code ({ cls := "com/example/backplane/backplane/ClusterClock$Sample", name := "clusterMs", desc := "()J" } : Jvm.MethodName) prog_2_method_6_code (1 : Nat) (Option.some Jvm.ClassFile.FieldType.long), Jvm.Cond.code ({ cls := "com/example/backplane/backplane/ClusterClock$Sample", name := "atNanos", desc := "()J" } : Jvm.MethodName) prog_2_method_7_code (1 : Nat) (Option.some Jvm.ClassFile.FieldType.long), Jvm.Cond.code ({ cls := "java/lang/Math", name := "floorDiv", desc := "(JJ)J" } : Jvm.MethodName) jdk_29_method_49_code (6 : Nat) (Option.some Jvm.ClassFile.FieldType.long), Jvm.Cond.code ({ cls := "com/example/backplane/backplane/ClusterClock$Sample", name := "errorNanos", desc := "()J" } : Jvm.MethodName) prog_2_method_8_code (1 : Nat) (Option.some Jvm.ClassFile.FieldType.long), Jvm.Cond.code ({ cls := "com/example/backplane/backplane/ClusterClock$Sample", name := "errorAt", desc := "(J)J" } : Jvm.MethodName) prog_2_method_2_code (3 : Nat) (Option.some Jvm.ClassFile.FieldType.long), Jvm.Cond.code ({ cls := "com/example/backplane/backplane/ClusterClockSamplePinLaw", name := "fd", desc := "(J)J" } : Jvm.MethodName) method_2_code (4 : Nat) (Option.some Jvm.ClassFile.FieldType.long)]
set_option maxRecDepth 65536 in
theorem codes_eq : words1.filter isCode = codes1 := rfl
theorem w_codes : ∀ c ∈ words1.filter isCode, c.before args0 about1 = true := by
  rw [codes_eq]
  intro c hc
  simp only [codes1, List.mem_cons, List.not_mem_nil, or_false] at hc
  rcases hc with rfl | rfl | rfl | rfl | rfl | rfl | rfl | rfl | rfl | rfl | rfl | rfl | rfl | rfl
  · exact w_c0
  · exact w_c1
  · exact w_c2
  · exact w_c3
  · exact w_c4
  · exact w_c5
  · exact w_c6
  · exact w_c7
  · exact w_c8
  · exact w_c9
  · exact w_c10
  · exact w_c11
  · exact w_c12
  · exact w_c13
set_option maxRecDepth 65536 in
theorem w_t1 : (words1.take 24).all (fun c => isCode c || c.before args0 about1) = true := by decide +kernel
set_option maxRecDepth 65536 in
theorem w_t2 : ((words1.drop 24).take 24).all (fun c => isCode c || c.before args0 about1) = true := by decide +kernel
set_option maxRecDepth 65536 in
theorem w_t3 : (((words1.drop 24).drop 24).take 24).all (fun c => isCode c || c.before args0 about1) = true := by decide +kernel
set_option maxRecDepth 65536 in
theorem w_t4 : (((words1.drop 24).drop 24).drop 24).all (fun c => isCode c || c.before args0 about1) = true := by decide +kernel
theorem w_tables : (allAtoms (Jvm.Cond.code x code maxLocals ret :: tables_1)).before args0 about1 = true := by
  rw [allAtoms_all]
  show words1.all (fun c => c.before args0 about1) = true
  refine all_split ?_ w_codes
  rw [← List.take_append_drop 24 words1, List.all_append, w_t1, ← List.take_append_drop 24 (words1.drop 24), List.all_append, w_t2, ← List.take_append_drop 24 ((words1.drop 24).drop 24), List.all_append, w_t3, w_t4]
  rfl
set_option maxRecDepth 65536 in
theorem w_case : (Jvm.Cond.and given_1 narrow_1).before args0 about1 = true := by decide +kernel
theorem w_applies : (headSpec (Jvm.Cond.code x code maxLocals ret :: tables_1) room_1).applies x e0.platform about1 = true :=
  (Spec.applies_iff w_frames).mpr ⟨w_running, w_runnable, w_alone, w_named, w_hears, w_ripe, w_room, w_tables⟩
theorem atStart : AtStart classFile x code maxLocals ret World_1 tables_1 room_1 Calls_1 rest_1 Pre_1 launch0 p0 e0 about1 theMethod args0 below0 :=
  ⟨lists_1, trivial, launch0.admits_env _ _ _, launch0.least_env, fairChoices_fair.cas, fairChoices_fair.clock, w_frames, w_args, w_heap, w_applies, trivial, trivial, w_case⟩
end start1
theorem witness_1 : WitnessClaimed_1 := ⟨start1.p0, start1.e0, start1.about1, start1.theMethod, start1.args0, start1.below0, start1.atStart⟩
end Jvm.Pilot.@@N@@
