import JvmDerived
import JvmDerived.Pilot.@@N@@Statement
import JvmDerived.Pilot.@@N@@Code
set_option linter.unusedVariables false
set_option linter.unusedSimpArgs false
namespace Jvm.Pilot.@@N@@
open Jvm Jvm.ClassFile Sem Op Lib Jvm.Free Jvm.Stand Jvm.LawKit Jvm.RoadKit Bundle Jvm.Pilot.@@N@@.Jvm.D
theorem own_w (i : Nat) {d : Jvm.Cond} (h : tables_1[i]? = some d) : d ∈ tables_1 := List.mem_of_getElem? h
def own_Go (p : Program) (e : Env) (below : List Frame) (A B : State) : Prop := ∀ t, Steps p.tables e below B t → Steps p.tables e below A t
abbrev own_top {p : Program} {e : Env} {below : List Frame} {A T : State} {g : JFrame} (_ : own_Go p e below A (T.setTop g)) : JFrame := g
section OwnKit
variable {p : Program} {l : Launch} {e : Env} {R : Room} {s : State} {m : MethodId} {args : Array Value} {below : List Frame} {meth : Method} {c : Code} {T : State} {locs : List Loc} {cells slots : Nat}
theorem retI (X : Stand p l e R s m args below meth c T locs cells slots) (hx : p.tables.exec = Jvm.exec) {pc : Nat} {Ls : Array Slot} {z : Int32} {rest : List Value} (hret : meth.sig.returnType = some .int) (hd : decode c.code pc = .ok (.ireturn, 1)) {fs : List Frame}
    (hl : ∀ (f : JFrame) (acts : List Action), f.method = m → f.locked = none → f.entered = [] → (doReturn e (T.setTop f) acts (some (.int z))).1 = T.setFrames fs) : Steps p.tables e below (T.setTop (mkF m pc Ls (.int z :: rest))) (T.setFrames fs) :=
  retOut X hx hret rfl (Or.inl ⟨rfl, Or.inl rfl, z, rfl⟩) hd hl
theorem own_retR (X : Stand p l e R s m args below meth c T locs cells slots) (hx : p.tables.exec = Jvm.exec) {pc : Nat} {Ls : Array Slot} {w : Value} {t : FieldType} {rest : List Value} (hret : meth.sig.returnType = some t) (ht : t.isReference = true) (hw : w.isRef = true) (hd : decode c.code pc = .ok (.areturn, 1)) {fs : List Frame}
    (hl : ∀ (f : JFrame) (acts : List Action), f.method = m → f.locked = none → f.entered = [] → (doReturn e (T.setTop f) acts (some w)).1 = T.setFrames fs) : Steps p.tables e below (T.setTop (mkF m pc Ls (w :: rest))) (T.setFrames fs) :=
  retOut X hx hret (by cases t <;> cases w <;> simp_all [FieldType.isReference, Value.isRef, narrow]) (Or.inr (Or.inr (Or.inr (Or.inr ⟨rfl, ht, hw⟩)))) hd hl
end OwnKit

theorem own_eqI {args : Array Value} {first s : State} {o : Option Outcome} {idx : List Nat} {t : Term} {k : Int32} (h : (Jvm.Cond.eq t (.int k)).value args first o s idx = some true) : t.eval args first o idx s = some (.int k) := by
  obtain ⟨x, y, h1, h2, h3, h4⟩ := cmp_v (Or.inl h)
  obtain rfl : y = .int k := by simpa [Term.eval] using h2.symm
  obtain ⟨z, rfl⟩ := h4
  simp [Cond.value, h1, h2] at h
  subst h
  exact h1

section OwnRef
variable {p : Program} {l : Launch} {e : Env} {R : Room} {s : State} {m : MethodId} {args : Array Value} {below : List Frame} {meth : Method} {c : Code} {T : State} {locs : List Loc} {cells slots : Nat}
theorem own_initRef {tb : Tables} [Ours tb] {Z U : State} {mm : MethodId} {cc : Code} (h : At U mm cc below) (hexec : tb.exec = Jvm.exec) (hZ : Z.Warmed39 s.vm) (hW : s.WarmedH U.vm) {own : String} (hown : s.vm.findClass own = some mm.cls) {idx : Nat} {t : MethodName} (ht1 : t.name = "<init>")
    (hnot : t.cls ≠ "java/lang/invoke/MethodHandle" ∧ t.cls ≠ "java/lang/invoke/VarHandle") {a0 args' : Array Value} {bytes : ByteArray} {maxL : Nat}
    (hlink : (Jvm.Cond.methodRef own idx t).before a0 Z = true) (hinst : (Jvm.Cond.instanceMethod t).before args' s = true) (hcode : (Jvm.Cond.code t bytes maxL none).before args' s = true)
    {f : JFrame} (hf : f.method = mm) {a : Addr} {argsL rest : List Value} (hlen : ∀ sig, parseMethodDescriptor t.desc = some sig → argsL.length = sig.parameters.length) (hstack : f.stack = argsL.reverse ++ .ref a :: rest) (hd : decode cc.code f.pc = .ok (.invokespecial idx, 3)) :
    ∃ tm, s.methodNamed? t = some tm ∧ ∀ target, (∀ acts, Steps tb e below (doInvoke e ((U.setVm U.vm).setTop { f with stack := rest }) acts tm (.ref a :: argsL).toArray).1 target) → Steps tb e below (U.setTop f) target := by
  subst hf
  obtain ⟨obj, methO, hnO, hmO, hstO, habO⟩ := Cond.instanceMethod_spec hinst
  obtain ⟨methO', cO, hmO', hcO, hbO, hlO, -, hlockO, -, hsigO⟩ := Cond.code_spec hnO hcode
  cases hmO.symm.trans hmO'
  obtain ⟨kO, hkO, hnameO⟩ := className_of_methodNamed hnO
  obtain ⟨hnameMO, hdescO⟩ := name_of_methodNamed hnO hmO
  have hZU : Z.Warmed39 U.vm := wtrans hZ hW
  have hnZ : Z.methodNamed? t = some obj := by rw [← State.methodNamed?_setVm hZ.alike]; exact hnO
  have hnU : (Z.setVm U.vm).methodNamed? t = some obj := by rw [State.methodNamed?_setVm hZU.alike]; exact hnZ
  have hrefU := Cond.methodRef_warmed39 hZU hnZ hnot hlink
  have hcur : (Z.setVm U.vm).vm.findClass own = some f.method.cls := by
    rw [show (Z.setVm U.vm).vm = U.vm from rfl, hW.alike.findClass]; exact hown
  obtain ⟨r, c', hfr, hready, hfind, hnames⟩ := Cond.methodRef_named e hcur hrefU
  cases hfr.symm.trans (State.methodFound?_of_named hnU hnot)
  cases hfind.symm.trans (findClass_of_methodNamed hnU)
  obtain ⟨kO₂, hkO₂, heO₂⟩ := hW.alike.2.2 _ _ hkO
  have hmO₂ : U.vm.method? obj = some methO := by rw [hW.alike.method?]; exact hmO
  have hfound : lookupSpecial U.vm obj.cls "<init>" methO.desc = .method obj := by
    rw [hW.alike.lookupSpecial, hdescO, ← ht1]; exact lookupSpecial_of_named hnO hmO hstO
  refine ⟨obj, hnO, fun target hrest => ?_⟩
  have hrest' : ∀ acts, Steps tb e below (doInvoke e (U.setTop { f with stack := rest }) acts obj (.ref a :: argsL).toArray).1 target := hrest
  jvm_step h [hexec, hd, invokespecial.wp_init (e := e) (s := U) (k := kO₂) (meth := methO) (m := obj) (a := a) (args := argsL) (rest := rest) (f := f)
      h.top hnames hready hkO₂ hmO₂ (by rw [hnameMO]; exact ht1) hstO habO hfound (hlen _ hsigO) hstack]
  exact hrest'
theorem own_specialRef {Z : State} {a0 : Array Value} (X : Stand p l e R s m args below meth c T locs cells slots) (hexec : p.tables.exec = Jvm.exec) (hZ : Z.Warmed39 s.vm) {own : String} {index : Nat} {y : MethodName} (hy1 : y.name = "<init>")
    (hown : s.vm.findClass own = some m.cls) (hlink : (Jvm.Cond.methodRef own index y).before a0 Z = true) (hinst : (Jvm.Cond.instanceMethod y).before args s = true)
    {bytes : ByteArray} {maxL : Nat} (hcode : (Jvm.Cond.code y bytes maxL none).before args s = true)
    (hy : y.cls ≠ "java/lang/invoke/MethodHandle" ∧ y.cls ≠ "java/lang/invoke/VarHandle")
    {W : Nat} {Pre : Pt → Array Value → Prop} {Post : Pt → Array Value → Option Value → Pt → Prop} (hK : Back l R p e below s args y 3 W Pre Post)
    {g : JFrame} (hg : g.method = m) (hsize : g.locals.size = c.maxLocals) {a : Addr} {argsL rest : List Value}
    (hlen : ∀ sig, parseMethodDescriptor y.desc = some sig → argsL.length = sig.parameters.length) (hstack : g.stack = argsL.reverse ++ .ref a :: rest) (hW : 2 * g.monitorRoom + (rest.map fun v => v.category).sum ≤ W)
    (hdg : decode c.code g.pc = .ok (.invokespecial index, 3)) (hpre : ∀ vm₁, s.WarmedH vm₁ → Pre ⟨T.setVm vm₁, locs, cells, slots⟩ (.ref a :: argsL).toArray) :
    ∃ (v : Option Value) (vm₁ : Vm) (B : Pt), s.WarmedH vm₁ ∧ Stand p l e R s m args below meth c B.U B.locs B.cells B.slots ∧ Post ⟨T.setVm vm₁, locs, cells, slots⟩ (.ref a :: argsL).toArray v B ∧
      Steps p.tables e below (T.setTop g) (B.U.setTop { g with pc := g.pc + 3, stack := v.toList ++ rest }) := by
  obtain ⟨mk, hnamed, hstep⟩ := own_initRef (e := e) X.here hexec hZ X.warmed hown hy1 hy hlink hinst hcode (f := g) hg hlen hstack hdg
  have X₁ := X.noted X.warmed
  obtain ⟨v, B, X', hpost, hsteps⟩ := hK m meth c ⟨T.setVm T.vm, locs, cells, slots⟩ { g with stack := rest } (.invokespecial index) mk (.ref a :: argsL).toArray X₁ hg hsize hdg hW (X₁.named hnamed) (hpre T.vm X.warmed)
  exact ⟨v, T.vm, B, X.warmed, X', hpost, (hstep _ fun acts => by rw [doInvoke_state]; exact Steps.refl _).trans hsteps⟩
end OwnRef

theorem d5_0 : decode jdk_30_method_1_code 0 = .ok (.aload_n 0, 1) := by decide +kernel
theorem d5_1 : decode jdk_30_method_1_code 1 = .ok (.invokespecial 1, 3) := by decide +kernel
theorem d5_4 : decode jdk_30_method_1_code 4 = .ok (.return_, 1) := by decide +kernel
theorem pn_5 : plainName "java/lang/Record" = true := by first | (simp [plainName, overriddenIn]; done) | decide +kernel
theorem ef_5 (m : MethodId) (x0 : Addr) : entryFrame m #[(.ref x0)] 1 = mkF m 0 #[.val (.ref x0)] [] := by first | (simp [entryFrame, mkF, argsToLocals, Value.category]; done) | rfl
def Q5 (Z : State) (a1 : Addr) (h0 : Heap) (n0 : Nat) (v : Option Value) (h : Heap) (L : List Loc) : Prop := v = none ∧ Fr n0 L ∧ h = h0
set_option maxRecDepth 65536 in
set_option maxHeartbeats 40000000 in
theorem rm5 (l : Launch) (Z : State) (a0 : Array Value) (hw : ∀ d ∈ tables_1, d.before a0 Z = true) (ws : List Jvm.Cond) (a1 : Addr) (h0 : Heap) (n0 : Nat) (Z0 : n0 ≤ h0.size) :
    MetFree l (⟨"java/lang/Record", "<init>", "()V"⟩ : MethodName) (head1 (Jvm.Cond.code (⟨"java/lang/Record", "<init>", "()V"⟩ : MethodName) jdk_30_method_1_code 1 none :: ws) ({ frames := 1, cells := 0, slots := 0, locals := 12 } : Room)) (fun a U => a = #[(.ref a1)] ∧ Z.Warmed39 U.vm ∧ U.heap = h0) (fun _ _ _ _ _ => True) (fun _ U o U' => ∃ v L, o = .returned v ∧ Q5 Z a1 h0 n0 v U'.heap L ∧ FrameEnd U o U' L ({ frames := 1, cells := 0, slots := 0, locals := 12 } : Room).cells ({ frames := 1, cells := 0, slots := 0, locals := 12 } : Room).slots) := by
  refine MetFree.of_bodySF (plainFor_of_name pn_5) hisR ?_
  intro p e s m args below meth c s₁ Bd hml0 hP hK
  obtain ⟨rfl, hZ, hh⟩ := hP
  have hx := Bd.exec
  have hby := Bd.bytes
  have hml : c.maxLocals = 1 := hml0
  have hown0 := findClass_of_methodNamed Bd.named
  have hown : s.vm.findClass "java/lang/Record" = some m.cls := hown0
  have hnm := (name_of_methodNamed Bd.named Bd.method).1
  have X0 : Stand p l e ({ frames := 1, cells := 0, slots := 0, locals := 12 } : Room) s m #[(.ref a1)] below meth c s₁ [] 0 0 := Stand.of_body Bd
  have e0 : s₁.heap = h0 := by rw [← hh, Bd.state]; rfl
  have N0 := Fr.nil n0
  obtain ⟨S0, hS0⟩ : ∃ z, z = s₁.setTop (entryFrame m #[(.ref a1)] 1) := ⟨_, rfl⟩
  have pre0 : own_Go p e below S0 (s₁.setTop (mkF m 0 #[.val (.ref a1)] [])) := fun t k => by rw [hS0]; exact castTop (ef_5 m a1) k
  have fin : ∀ t, Steps p.tables e below S0 t → Steps p.tables e below (s₁.setTop (entryFrame m #[(.ref a1)] 1)) t := fun t k => by rw [hS0] at k; exact k
  have pre1 : own_Go p e below S0 (s₁.setTop (mkF m 1 #[.val (.ref a1)] [(.ref a1)])) := by
    intro t kt
    refine pre0 t ?_
    refine XS.aloadN X0.here hx rfl (hb hby d5_0) rfl rfl ?_
    show Steps p.tables e below (s₁.setTop (mkF m 1 #[.val (.ref a1)] [(.ref a1)])) _
    exact kt
  obtain ⟨T2, X2, e2, st2⟩ := initO X0 hx hZ hown (hw _ (own_w 30 rfl)) (hw _ (own_w 11 rfl)) (hw _ (own_w 12 rfl)) e0 (g := (mkF m 1 #[.val (.ref a1)] [(.ref a1)])) rfl (by rw [hml]; rfl) rfl (hb hby d5_1) (by decide) (W := 0) (by show 2 * 0 + _ ≤ _; exact Nat.le_of_eq rfl) (by decide)
  have pre3 : own_Go p e below S0 (T2.setTop (mkF m 4 #[.val (.ref a1)] [])) := by
    intro t kt
    refine pre1 t ?_
    refine st2 _ ?_
    show Steps p.tables e below (T2.setTop (mkF m 4 #[.val (.ref a1)] [])) _
    exact kt
  obtain ⟨fs, hr, hrun, hended, hW, hsame⟩ := X2.leave (v := none) (fun _ => rfl)
  refine ⟨_, _, fin _ (pre3 _ ?_), hrun, hended, _, _, rfl, ?_, ⟨_, rfl⟩, hW, hsame.mono (by decide) (by decide)⟩
  · exact X2.returnOut hx Bd.returns (hb hby d5_4) hr
  · show Q5 Z a1 h0 n0 _ T2.heap _
    rw [e2]
    exact ⟨rfl, N0, rfl⟩

theorem d4_0 : decode prog_2_method_1_code 0 = .ok (.aload_n 0, 1) := by decide +kernel
theorem d4_1 : decode prog_2_method_1_code 1 = .ok (.invokespecial 3, 3) := by decide +kernel
theorem d4_4 : decode prog_2_method_1_code 4 = .ok (.aload_n 0, 1) := by decide +kernel
theorem d4_5 : decode prog_2_method_1_code 5 = .ok (.lload_n 1, 1) := by decide +kernel
theorem d4_6 : decode prog_2_method_1_code 6 = .ok (.putfield 9, 3) := by decide +kernel
theorem d4_9 : decode prog_2_method_1_code 9 = .ok (.aload_n 0, 1) := by decide +kernel
theorem d4_10 : decode prog_2_method_1_code 10 = .ok (.lload_n 3, 1) := by decide +kernel
theorem d4_11 : decode prog_2_method_1_code 11 = .ok (.putfield 15, 3) := by decide +kernel
theorem d4_14 : decode prog_2_method_1_code 14 = .ok (.aload_n 0, 1) := by decide +kernel
theorem d4_15 : decode prog_2_method_1_code 15 = .ok (.lload 5, 2) := by decide +kernel
theorem d4_17 : decode prog_2_method_1_code 17 = .ok (.putfield 18, 3) := by decide +kernel
theorem d4_20 : decode prog_2_method_1_code 20 = .ok (.return_, 1) := by decide +kernel
theorem pn_4 : plainName "com/example/backplane/backplane/ClusterClock$Sample" = true := by first | (simp [plainName, overriddenIn]; done) | decide +kernel
theorem pd_0 : parseMethodDescriptor "()V" = some ⟨[], none⟩ := by decide +kernel
theorem ef_4 (m : MethodId) (x0 : Addr) (x1 : Int64) (x2 : Int64) (x3 : Int64) : entryFrame m #[(.ref x0), (.long x1), (.long x2), (.long x3)] 7 = mkF m 0 #[.val (.ref x0), .val (.long x1), .second, .val (.long x2), .second, .val (.long x3), .second] [] := by first | (simp [entryFrame, mkF, argsToLocals, Value.category]; done) | rfl
def Q4 (Z : State) (a1 : Addr) (q2 : Int64) (q3 : Int64) (q4 : Int64) (h0 : Heap) (n0 : Nat) (v : Option Value) (h : Heap) (L : List Loc) : Prop := v = none ∧ Fr n0 L ∧ Keep h0 h [a1] ∧ Exa Z h a1 "com/example/backplane/backplane/ClusterClock$Sample" ∧ Fld Z h a1 "com/example/backplane/backplane/ClusterClock$Sample" "clusterMs" "J" (.long q2) ∧ Fld Z h a1 "com/example/backplane/backplane/ClusterClock$Sample" "atNanos" "J" (.long q3) ∧ Fld Z h a1 "com/example/backplane/backplane/ClusterClock$Sample" "errorNanos" "J" (.long q4)
set_option maxRecDepth 65536 in
set_option maxHeartbeats 40000000 in
theorem rm4 (l : Launch) (Z : State) (a0 : Array Value) (hw : ∀ d ∈ tables_1, d.before a0 Z = true) (ws : List Jvm.Cond) (a1 : Addr) (q2 : Int64) (q3 : Int64) (q4 : Int64) (h0 : Heap) (n0 : Nat) (Z0 : n0 ≤ h0.size) (E1 : Exa Z h0 a1 "com/example/backplane/backplane/ClusterClock$Sample") (g1 : n0 ≤ a1) (F0 : Fld Z h0 a1 "com/example/backplane/backplane/ClusterClock$Sample" "clusterMs" "J" (.long (0 : Int64))) (F1 : Fld Z h0 a1 "com/example/backplane/backplane/ClusterClock$Sample" "atNanos" "J" (.long (0 : Int64))) (F2 : Fld Z h0 a1 "com/example/backplane/backplane/ClusterClock$Sample" "errorNanos" "J" (.long (0 : Int64))) :
    MetFree l (⟨"com/example/backplane/backplane/ClusterClock$Sample", "<init>", "(JJJ)V"⟩ : MethodName) (head1 (Jvm.Cond.code (⟨"com/example/backplane/backplane/ClusterClock$Sample", "<init>", "(JJJ)V"⟩ : MethodName) prog_2_method_1_code 7 none :: ws) ({ frames := 2, cells := 0, slots := 0, locals := 24 } : Room)) (fun a U => a = #[(.ref a1), (.long q2), (.long q3), (.long q4)] ∧ Z.Warmed39 U.vm ∧ U.heap = h0) (fun _ _ _ _ _ => True) (fun _ U o U' => ∃ v L, o = .returned v ∧ Q4 Z a1 q2 q3 q4 h0 n0 v U'.heap L ∧ FrameEnd U o U' L ({ frames := 2, cells := 0, slots := 0, locals := 24 } : Room).cells ({ frames := 2, cells := 0, slots := 0, locals := 24 } : Room).slots) := by
  refine MetFree.of_bodySF (plainFor_of_name pn_4) hisR ?_
  intro p e s m args below meth c s₁ Bd hml0 hP hK
  obtain ⟨rfl, hZ, hh⟩ := hP
  have hx := Bd.exec
  have hby := Bd.bytes
  have hml : c.maxLocals = 7 := hml0
  have hown0 := findClass_of_methodNamed Bd.named
  have hown : s.vm.findClass "com/example/backplane/backplane/ClusterClock$Sample" = some m.cls := hown0
  have hnm := (name_of_methodNamed Bd.named Bd.method).1
  have X0 : Stand p l e ({ frames := 2, cells := 0, slots := 0, locals := 24 } : Room) s m #[(.ref a1), (.long q2), (.long q3), (.long q4)] below meth c s₁ [] 0 0 := Stand.of_body Bd
  have e0 : s₁.heap = h0 := by rw [← hh, Bd.state]; rfl
  have N0 := Fr.nil n0
  obtain ⟨S0, hS0⟩ : ∃ z, z = s₁.setTop (entryFrame m #[(.ref a1), (.long q2), (.long q3), (.long q4)] 7) := ⟨_, rfl⟩
  have pre0 : own_Go p e below S0 (s₁.setTop (mkF m 0 #[.val (.ref a1), .val (.long q2), .second, .val (.long q3), .second, .val (.long q4), .second] [])) := fun t k => by rw [hS0]; exact castTop (ef_4 m a1 q2 q3 q4) k
  have fin : ∀ t, Steps p.tables e below S0 t → Steps p.tables e below (s₁.setTop (entryFrame m #[(.ref a1), (.long q2), (.long q3), (.long q4)] 7)) t := fun t k => by rw [hS0] at k; exact k
  have kc0 : Keep h0 h0 [a1] := Keep.refl _ _
  have pre1 : own_Go p e below S0 (s₁.setTop (mkF m 1 #[.val (.ref a1), .val (.long q2), .second, .val (.long q3), .second, .val (.long q4), .second] [(.ref a1)])) := by
    intro t kt
    refine pre0 t ?_
    refine XS.aloadN X0.here hx rfl (hb hby d4_0) rfl rfl ?_
    show Steps p.tables e below (s₁.setTop (mkF m 1 #[.val (.ref a1), .val (.long q2), .second, .val (.long q3), .second, .val (.long q4), .second] [(.ref a1)])) _
    exact kt
  obtain ⟨_, _, ⟨T2, L2, k2, n2⟩, -, X2, ⟨Lc2, hQ2, l2, y2, z2⟩, st2⟩ := X0.specialBack hx (y := (⟨"java/lang/Record", "<init>", "()V"⟩ : MethodName)) rfl hown (mvT hZ (hw _ (own_w 25 rfl))) (mvT hZ (hw _ (own_w 26 rfl))) (mvT hZ (hw _ (own_w 29 rfl))) (by decide) (backOf (W := 0) (rm5 l Z a0 hw [] a1 h0 n0 Z0 ) hZ (hw _ (own_w 29 rfl)) (hw _ (own_w 28 rfl)) (by decide) (by decide)) (g := (mkF m 1 #[.val (.ref a1), .val (.long q2), .second, .val (.long q3), .second, .val (.long q4), .second] [(.ref a1)])) rfl (by rw [hml]; rfl) (Steps.refl _) (a := a1) (argsL := []) (rest := []) (lenOf pd_0 rfl) rfl (by show 2 * 0 + _ ≤ _; exact Nat.le_of_eq rfl) (hb hby d4_1) (fun _ _ => ⟨rfl, e0, (by decide : 0 + 0 ≤ _), (by decide : 0 + 0 ≤ _)⟩)
  dsimp only [Pt.U, Pt.locs, Pt.cells, Pt.slots] at X2 l2 y2 z2 st2 hQ2
  subst l2 y2 z2
  obtain ⟨rfl, Nq2, eq2⟩ := hQ2
  have N2 := Fr.app N0 Nq2
  have pre3 : own_Go p e below S0 (T2.setTop (mkF m 6 #[.val (.ref a1), .val (.long q2), .second, .val (.long q3), .second, .val (.long q4), .second] [(.long q2), (.ref a1)])) := by
    intro t kt
    refine pre1 t ?_
    refine st2.trans ?_
    show Steps p.tables e below (T2.setTop (mkF m 4 #[.val (.ref a1), .val (.long q2), .second, .val (.long q3), .second, .val (.long q4), .second] [])) _
    refine XS.aloadN X2.here hx rfl (hb hby d4_4) rfl rfl ?_
    show Steps p.tables e below (T2.setTop (mkF m 5 #[.val (.ref a1), .val (.long q2), .second, .val (.long q3), .second, .val (.long q4), .second] [(.ref a1)])) _
    refine XS.lloadN X2.here hx rfl (hb hby d4_5) rfl ?_
    show Steps p.tables e below (T2.setTop (mkF m 6 #[.val (.ref a1), .val (.long q2), .second, .val (.long q3), .second, .val (.long q4), .second] [(.long q2), (.ref a1)])) _
    exact kt
  obtain ⟨T4, h4, X4, e4, W4, st4⟩ := putF X2 hx hZ hown (host := "") (Or.inl (hw _ (own_w 31 rfl))) Via.refl eq2 F0 E1 (Or.inr ⟨(hw _ (own_w 32 rfl)), rfl, hnm⟩) (hw _ (own_w 20 rfl)) (ty := .long) (by decide) rfl rfl (g := (mkF m 6 #[.val (.ref a1), .val (.long q2), .second, .val (.long q3), .second, .val (.long q4), .second] [(.long q2), (.ref a1)])) rfl rfl (hb hby d4_6)
  have N4 := Fr.snoc X4 N2 g1
  have zs5 : n0 ≤ h4.size := Nat.le_trans Z0 (Keep.of_wr W4).1
  have kc6 : Keep h0 h4 [a1] := kc0.wr W4 (Or.inl (List.mem_of_getElem? (i := 0) rfl))
  have fw4 : Fld Z h4 a1 "com/example/backplane/backplane/ClusterClock$Sample" "clusterMs" "J" (.long q2) := F0.same W4
  have pre7 : own_Go p e below S0 (T4.setTop (mkF m 11 #[.val (.ref a1), .val (.long q2), .second, .val (.long q3), .second, .val (.long q4), .second] [(.long q3), (.ref a1)])) := by
    intro t kt
    refine pre3 t ?_
    refine st4 _ ?_
    show Steps p.tables e below (T4.setTop (mkF m 9 #[.val (.ref a1), .val (.long q2), .second, .val (.long q3), .second, .val (.long q4), .second] [])) _
    refine XS.aloadN X4.here hx rfl (hb hby d4_9) rfl rfl ?_
    show Steps p.tables e below (T4.setTop (mkF m 10 #[.val (.ref a1), .val (.long q2), .second, .val (.long q3), .second, .val (.long q4), .second] [(.ref a1)])) _
    refine XS.lloadN X4.here hx rfl (hb hby d4_10) rfl ?_
    show Steps p.tables e below (T4.setTop (mkF m 11 #[.val (.ref a1), .val (.long q2), .second, .val (.long q3), .second, .val (.long q4), .second] [(.long q3), (.ref a1)])) _
    exact kt
  have f8 : Fld Z h4 a1 "com/example/backplane/backplane/ClusterClock$Sample" "atNanos" "J" (.long (0 : Int64)) := (F1.other W4 (Or.inr (slot_ne (Or.inr (hw _ (own_w 34 rfl))) (Or.inr (hw _ (own_w 32 rfl))) (by decide) (t := .long) (t' := .long) (by decide) (by decide))))
  have f9 : Exa Z h4 a1 "com/example/backplane/backplane/ClusterClock$Sample" := (E1.wr W4)
  obtain ⟨T10, h10, X10, e10, W10, st10⟩ := putF X4 hx hZ hown (host := "") (Or.inl (hw _ (own_w 33 rfl))) Via.refl e4 f8 f9 (Or.inr ⟨(hw _ (own_w 34 rfl)), rfl, hnm⟩) (hw _ (own_w 20 rfl)) (ty := .long) (by decide) rfl rfl (g := (mkF m 11 #[.val (.ref a1), .val (.long q2), .second, .val (.long q3), .second, .val (.long q4), .second] [(.long q3), (.ref a1)])) rfl rfl (hb hby d4_11)
  have N10 := Fr.snoc X10 N4 g1
  have zs11 : n0 ≤ h10.size := Nat.le_trans zs5 (Keep.of_wr W10).1
  have kc12 : Keep h0 h10 [a1] := kc6.wr W10 (Or.inl (List.mem_of_getElem? (i := 0) rfl))
  have fw10 : Fld Z h10 a1 "com/example/backplane/backplane/ClusterClock$Sample" "atNanos" "J" (.long q3) := f8.same W10
  have pre13 : own_Go p e below S0 (T10.setTop (mkF m 17 #[.val (.ref a1), .val (.long q2), .second, .val (.long q3), .second, .val (.long q4), .second] [(.long q4), (.ref a1)])) := by
    intro t kt
    refine pre7 t ?_
    refine st10 _ ?_
    show Steps p.tables e below (T10.setTop (mkF m 14 #[.val (.ref a1), .val (.long q2), .second, .val (.long q3), .second, .val (.long q4), .second] [])) _
    refine XS.aloadN X10.here hx rfl (hb hby d4_14) rfl rfl ?_
    show Steps p.tables e below (T10.setTop (mkF m 15 #[.val (.ref a1), .val (.long q2), .second, .val (.long q3), .second, .val (.long q4), .second] [(.ref a1)])) _
    refine XS.lload X10.here hx rfl (hb hby d4_15) rfl ?_
    show Steps p.tables e below (T10.setTop (mkF m 17 #[.val (.ref a1), .val (.long q2), .second, .val (.long q3), .second, .val (.long q4), .second] [(.long q4), (.ref a1)])) _
    exact kt
  have f14 : Fld Z h10 a1 "com/example/backplane/backplane/ClusterClock$Sample" "errorNanos" "J" (.long (0 : Int64)) := ((F2.other W4 (Or.inr (slot_ne (Or.inr (hw _ (own_w 36 rfl))) (Or.inr (hw _ (own_w 32 rfl))) (by decide) (t := .long) (t' := .long) (by decide) (by decide)))).other W10 (Or.inr (slot_ne (Or.inr (hw _ (own_w 36 rfl))) (Or.inr (hw _ (own_w 34 rfl))) (by decide) (t := .long) (t' := .long) (by decide) (by decide))))
  have f15 : Exa Z h10 a1 "com/example/backplane/backplane/ClusterClock$Sample" := (f9.wr W10)
  obtain ⟨T16, h16, X16, e16, W16, st16⟩ := putF X10 hx hZ hown (host := "") (Or.inl (hw _ (own_w 35 rfl))) Via.refl e10 f14 f15 (Or.inr ⟨(hw _ (own_w 36 rfl)), rfl, hnm⟩) (hw _ (own_w 20 rfl)) (ty := .long) (by decide) rfl rfl (g := (mkF m 17 #[.val (.ref a1), .val (.long q2), .second, .val (.long q3), .second, .val (.long q4), .second] [(.long q4), (.ref a1)])) rfl rfl (hb hby d4_17)
  have N16 := Fr.snoc X16 N10 g1
  have zs17 : n0 ≤ h16.size := Nat.le_trans zs11 (Keep.of_wr W16).1
  have kc18 : Keep h0 h16 [a1] := kc12.wr W16 (Or.inl (List.mem_of_getElem? (i := 0) rfl))
  have fw16 : Fld Z h16 a1 "com/example/backplane/backplane/ClusterClock$Sample" "errorNanos" "J" (.long q4) := f14.same W16
  have pre19 : own_Go p e below S0 (T16.setTop (mkF m 20 #[.val (.ref a1), .val (.long q2), .second, .val (.long q3), .second, .val (.long q4), .second] [])) := by
    intro t kt
    refine pre13 t ?_
    refine st16 _ ?_
    show Steps p.tables e below (T16.setTop (mkF m 20 #[.val (.ref a1), .val (.long q2), .second, .val (.long q3), .second, .val (.long q4), .second] [])) _
    exact kt
  obtain ⟨fs, hr, hrun, hended, hW, hsame⟩ := X16.leave (v := none) (fun _ => rfl)
  refine ⟨_, _, fin _ (pre19 _ ?_), hrun, hended, _, _, rfl, ?_, ⟨_, rfl⟩, hW, hsame.mono (by decide) (by decide)⟩
  · exact X16.returnOut hx Bd.returns (hb hby d4_20) hr
  have f20 : Exa Z h16 a1 "com/example/backplane/backplane/ClusterClock$Sample" := (f15.wr W16)
  have f21 : Fld Z h16 a1 "com/example/backplane/backplane/ClusterClock$Sample" "clusterMs" "J" (.long q2) := ((fw4.other W10 (Or.inr (slot_ne (Or.inr (hw _ (own_w 32 rfl))) (Or.inr (hw _ (own_w 34 rfl))) (by decide) (t := .long) (t' := .long) (by decide) (by decide)))).other W16 (Or.inr (slot_ne (Or.inr (hw _ (own_w 32 rfl))) (Or.inr (hw _ (own_w 36 rfl))) (by decide) (t := .long) (t' := .long) (by decide) (by decide))))
  have f22 : Fld Z h16 a1 "com/example/backplane/backplane/ClusterClock$Sample" "atNanos" "J" (.long q3) := (fw10.other W16 (Or.inr (slot_ne (Or.inr (hw _ (own_w 34 rfl))) (Or.inr (hw _ (own_w 36 rfl))) (by decide) (t := .long) (t' := .long) (by decide) (by decide))))
  · show Q4 Z a1 q2 q3 q4 h0 n0 _ T16.heap _
    rw [e16]
    exact ⟨rfl, N16, kc18, f20, f21, f22, fw16⟩

theorem d1_0 : decode prog_1_method_1_code 0 = .ok (.aload_n 0, 1) := by decide +kernel
theorem d1_1 : decode prog_1_method_1_code 1 = .ok (.invokespecial 1, 3) := by decide +kernel
theorem d1_4 : decode prog_1_method_1_code 4 = .ok (.return_, 1) := by decide +kernel
theorem pn_1 : plainName "com/example/backplane/backplane/ClusterClock" = true := by first | (simp [plainName, overriddenIn]; done) | decide +kernel
theorem ef_1 (m : MethodId) (x0 : Addr) : entryFrame m #[(.ref x0)] 1 = mkF m 0 #[.val (.ref x0)] [] := by first | (simp [entryFrame, mkF, argsToLocals, Value.category]; done) | rfl
def Q1 (Z : State) (a1 : Addr) (h0 : Heap) (n0 : Nat) (v : Option Value) (h : Heap) (L : List Loc) : Prop := v = none ∧ Fr n0 L ∧ h = h0
set_option maxRecDepth 65536 in
set_option maxHeartbeats 40000000 in
theorem rm1 (l : Launch) (Z : State) (a0 : Array Value) (hw : ∀ d ∈ tables_1, d.before a0 Z = true) (ws : List Jvm.Cond) (a1 : Addr) (h0 : Heap) (n0 : Nat) (Z0 : n0 ≤ h0.size) :
    MetFree l (⟨"com/example/backplane/backplane/ClusterClock", "<init>", "()V"⟩ : MethodName) (head1 (Jvm.Cond.code (⟨"com/example/backplane/backplane/ClusterClock", "<init>", "()V"⟩ : MethodName) prog_1_method_1_code 1 none :: ws) ({ frames := 1, cells := 0, slots := 0, locals := 12 } : Room)) (fun a U => a = #[(.ref a1)] ∧ Z.Warmed39 U.vm ∧ U.heap = h0) (fun _ _ _ _ _ => True) (fun _ U o U' => ∃ v L, o = .returned v ∧ Q1 Z a1 h0 n0 v U'.heap L ∧ FrameEnd U o U' L ({ frames := 1, cells := 0, slots := 0, locals := 12 } : Room).cells ({ frames := 1, cells := 0, slots := 0, locals := 12 } : Room).slots) := by
  refine MetFree.of_bodySF (plainFor_of_name pn_1) hisR ?_
  intro p e s m args below meth c s₁ Bd hml0 hP hK
  obtain ⟨rfl, hZ, hh⟩ := hP
  have hx := Bd.exec
  have hby := Bd.bytes
  have hml : c.maxLocals = 1 := hml0
  have hown0 := findClass_of_methodNamed Bd.named
  have hown : s.vm.findClass "com/example/backplane/backplane/ClusterClock" = some m.cls := hown0
  have hnm := (name_of_methodNamed Bd.named Bd.method).1
  have X0 : Stand p l e ({ frames := 1, cells := 0, slots := 0, locals := 12 } : Room) s m #[(.ref a1)] below meth c s₁ [] 0 0 := Stand.of_body Bd
  have e0 : s₁.heap = h0 := by rw [← hh, Bd.state]; rfl
  have N0 := Fr.nil n0
  obtain ⟨S0, hS0⟩ : ∃ z, z = s₁.setTop (entryFrame m #[(.ref a1)] 1) := ⟨_, rfl⟩
  have pre0 : own_Go p e below S0 (s₁.setTop (mkF m 0 #[.val (.ref a1)] [])) := fun t k => by rw [hS0]; exact castTop (ef_1 m a1) k
  have fin : ∀ t, Steps p.tables e below S0 t → Steps p.tables e below (s₁.setTop (entryFrame m #[(.ref a1)] 1)) t := fun t k => by rw [hS0] at k; exact k
  have pre1 : own_Go p e below S0 (s₁.setTop (mkF m 1 #[.val (.ref a1)] [(.ref a1)])) := by
    intro t kt
    refine pre0 t ?_
    refine XS.aloadN X0.here hx rfl (hb hby d1_0) rfl rfl ?_
    show Steps p.tables e below (s₁.setTop (mkF m 1 #[.val (.ref a1)] [(.ref a1)])) _
    exact kt
  obtain ⟨T2, X2, e2, st2⟩ := initO X0 hx hZ hown (hw _ (own_w 10 rfl)) (hw _ (own_w 11 rfl)) (hw _ (own_w 12 rfl)) e0 (g := (mkF m 1 #[.val (.ref a1)] [(.ref a1)])) rfl (by rw [hml]; rfl) rfl (hb hby d1_1) (by decide) (W := 0) (by show 2 * 0 + _ ≤ _; exact Nat.le_of_eq rfl) (by decide)
  have pre3 : own_Go p e below S0 (T2.setTop (mkF m 4 #[.val (.ref a1)] [])) := by
    intro t kt
    refine pre1 t ?_
    refine st2 _ ?_
    show Steps p.tables e below (T2.setTop (mkF m 4 #[.val (.ref a1)] [])) _
    exact kt
  obtain ⟨fs, hr, hrun, hended, hW, hsame⟩ := X2.leave (v := none) (fun _ => rfl)
  refine ⟨_, _, fin _ (pre3 _ ?_), hrun, hended, _, _, rfl, ?_, ⟨_, rfl⟩, hW, hsame.mono (by decide) (by decide)⟩
  · exact X2.returnOut hx Bd.returns (hb hby d1_4) hr
  · show Q1 Z a1 h0 n0 _ T2.heap _
    rw [e2]
    exact ⟨rfl, N0, rfl⟩

theorem d3_0 : decode prog_1_method_3_code 0 = .ok (.lload 5, 2) := by decide +kernel
theorem d3_2 : decode prog_1_method_3_code 2 = .ok (.lload_n 1, 1) := by decide +kernel
theorem d3_3 : decode prog_1_method_3_code 3 = .ok (.lsub, 1) := by decide +kernel
theorem d3_4 : decode prog_1_method_3_code 4 = .ok (.ldc2_w 24, 3) := by decide +kernel
theorem d3_7 : decode prog_1_method_3_code 7 = .ok (.ldiv, 1) := by decide +kernel
theorem d3_8 : decode prog_1_method_3_code 8 = .ok (.lstore 7, 2) := by decide +kernel
theorem d3_10 : decode prog_1_method_3_code 10 = .ok (.new 26, 3) := by decide +kernel
theorem d3_13 : decode prog_1_method_3_code 13 = .ok (.dup, 1) := by decide +kernel
theorem d3_14 : decode prog_1_method_3_code 14 = .ok (.lload_n 3, 1) := by decide +kernel
theorem d3_15 : decode prog_1_method_3_code 15 = .ok (.lload_n 1, 1) := by decide +kernel
theorem d3_16 : decode prog_1_method_3_code 16 = .ok (.lload 7, 2) := by decide +kernel
theorem d3_18 : decode prog_1_method_3_code 18 = .ok (.ladd, 1) := by decide +kernel
theorem d3_19 : decode prog_1_method_3_code 19 = .ok (.lload 7, 2) := by decide +kernel
theorem d3_21 : decode prog_1_method_3_code 21 = .ok (.invokespecial 28, 3) := by decide +kernel
theorem d3_24 : decode prog_1_method_3_code 24 = .ok (.astore 9, 2) := by decide +kernel
theorem d3_26 : decode prog_1_method_3_code 26 = .ok (.aload_n 0, 1) := by decide +kernel
theorem d3_27 : decode prog_1_method_3_code 27 = .ok (.getfield 30, 3) := by decide +kernel
theorem d3_30 : decode prog_1_method_3_code 30 = .ok (.astore 10, 2) := by decide +kernel
theorem d3_32 : decode prog_1_method_3_code 32 = .ok (.aload 10, 2) := by decide +kernel
theorem d3_34 : decode prog_1_method_3_code 34 = .ok (.ifnull 22, 3) := by decide +kernel
theorem d3_56 : decode prog_1_method_3_code 56 = .ok (.aload_n 0, 1) := by decide +kernel
theorem d3_57 : decode prog_1_method_3_code 57 = .ok (.aload 9, 2) := by decide +kernel
theorem d3_59 : decode prog_1_method_3_code 59 = .ok (.putfield 30, 3) := by decide +kernel
theorem d3_62 : decode prog_1_method_3_code 62 = .ok (.return_, 1) := by decide +kernel
theorem pn_3 : plainName "com/example/backplane/backplane/ClusterClock" = true := by first | (simp [plainName, overriddenIn]; done) | decide +kernel
theorem pd_1 : parseMethodDescriptor "(JJJ)V" = some ⟨[.long, .long, .long], none⟩ := by decide +kernel
theorem ef_3 (m : MethodId) (x0 : Addr) (x1 : Int64) (x2 : Int64) (x3 : Int64) : entryFrame m #[(.ref x0), (.long x1), (.long x2), (.long x3)] 11 = mkF m 0 #[.val (.ref x0), .val (.long x1), .second, .val (.long x2), .second, .val (.long x3), .second, .unset, .unset, .unset, .unset] [] := by first | (simp [entryFrame, mkF, argsToLocals, Value.category]; done) | rfl
def Q3 (Z : State) (a1 : Addr) (q2 : Int64) (q3 : Int64) (q4 : Int64) (h0 : Heap) (n0 : Nat) (v : Option Value) (h : Heap) (L : List Loc) : Prop := ∃ b : Addr, v = none ∧ Fr n0 L ∧ Keep h0 h [a1] ∧ h0.size ≤ b ∧ Exa Z h a1 "com/example/backplane/backplane/ClusterClock" ∧ Fld Z h a1 "com/example/backplane/backplane/ClusterClock" "sample" "Lcom/example/backplane/backplane/ClusterClock$Sample;" (.ref b) ∧ Exa Z h b "com/example/backplane/backplane/ClusterClock$Sample" ∧ Fld Z h b "com/example/backplane/backplane/ClusterClock$Sample" "clusterMs" "J" (.long q3) ∧ Fld Z h b "com/example/backplane/backplane/ClusterClock$Sample" "atNanos" "J" (.long (q2 + ((q4 - q2) / (2 : Int64))))
set_option maxRecDepth 65536 in
set_option maxHeartbeats 40000000 in
theorem rm3 (l : Launch) (Z : State) (a0 : Array Value) (hw : ∀ d ∈ tables_1, d.before a0 Z = true) (ws : List Jvm.Cond) (a1 : Addr) (q2 : Int64) (q3 : Int64) (q4 : Int64) (h0 : Heap) (n0 : Nat) (Z0 : n0 ≤ h0.size) (E1 : Exa Z h0 a1 "com/example/backplane/backplane/ClusterClock") (g1 : n0 ≤ a1) (F1 : Fld Z h0 a1 "com/example/backplane/backplane/ClusterClock" "sample" "Lcom/example/backplane/backplane/ClusterClock$Sample;" .null) :
    MetFree l (⟨"com/example/backplane/backplane/ClusterClock", "sample", "(JJJ)V"⟩ : MethodName) (head1 (Jvm.Cond.code (⟨"com/example/backplane/backplane/ClusterClock", "sample", "(JJJ)V"⟩ : MethodName) prog_1_method_3_code 11 none :: ws) ({ frames := 3, cells := 1, slots := 3, locals := 43 } : Room)) (fun a U => a = #[(.ref a1), (.long q2), (.long q3), (.long q4)] ∧ Z.Warmed39 U.vm ∧ U.heap = h0) (fun _ _ _ _ _ => True) (fun _ U o U' => ∃ v L, o = .returned v ∧ Q3 Z a1 q2 q3 q4 h0 n0 v U'.heap L ∧ FrameEnd U o U' L ({ frames := 3, cells := 1, slots := 3, locals := 43 } : Room).cells ({ frames := 3, cells := 1, slots := 3, locals := 43 } : Room).slots) := by
  refine MetFree.of_bodySF (plainFor_of_name pn_3) hisR ?_
  intro p e s m args below meth c s₁ Bd hml0 hP hK
  obtain ⟨rfl, hZ, hh⟩ := hP
  have hx := Bd.exec
  have hby := Bd.bytes
  have hml : c.maxLocals = 11 := hml0
  have hown0 := findClass_of_methodNamed Bd.named
  have hown : s.vm.findClass "com/example/backplane/backplane/ClusterClock" = some m.cls := hown0
  have hnm := (name_of_methodNamed Bd.named Bd.method).1
  have X0 : Stand p l e ({ frames := 3, cells := 1, slots := 3, locals := 43 } : Room) s m #[(.ref a1), (.long q2), (.long q3), (.long q4)] below meth c s₁ [] 0 0 := Stand.of_body Bd
  have e0 : s₁.heap = h0 := by rw [← hh, Bd.state]; rfl
  have N0 := Fr.nil n0
  obtain ⟨S0, hS0⟩ : ∃ z, z = s₁.setTop (entryFrame m #[(.ref a1), (.long q2), (.long q3), (.long q4)] 11) := ⟨_, rfl⟩
  have pre0 : own_Go p e below S0 (s₁.setTop (mkF m 0 #[.val (.ref a1), .val (.long q2), .second, .val (.long q3), .second, .val (.long q4), .second, .unset, .unset, .unset, .unset] [])) := fun t k => by rw [hS0]; exact castTop (ef_3 m a1 q2 q3 q4) k
  have fin : ∀ t, Steps p.tables e below S0 t → Steps p.tables e below (s₁.setTop (entryFrame m #[(.ref a1), (.long q2), (.long q3), (.long q4)] 11)) t := fun t k => by rw [hS0] at k; exact k
  have kc0 : Keep h0 h0 [a1] := Keep.refl _ _
  have pre1 : own_Go p e below S0 (s₁.setTop (mkF m 10 #[.val (.ref a1), .val (.long q2), .second, .val (.long q3), .second, .val (.long q4), .second, .val (.long ((q4 - q2) / (2 : Int64))), .second, .unset, .unset] [])) := by
    intro t kt
    refine pre0 t ?_
    refine XS.lload X0.here hx rfl (hb hby d3_0) rfl ?_
    show Steps p.tables e below (s₁.setTop (mkF m 2 #[.val (.ref a1), .val (.long q2), .second, .val (.long q3), .second, .val (.long q4), .second, .unset, .unset, .unset, .unset] [(.long q4)])) _
    refine XS.lloadN X0.here hx rfl (hb hby d3_2) rfl ?_
    show Steps p.tables e below (s₁.setTop (mkF m 3 #[.val (.ref a1), .val (.long q2), .second, .val (.long q3), .second, .val (.long q4), .second, .unset, .unset, .unset, .unset] [(.long q2), (.long q4)])) _
    refine XS.lsub X0.here hx rfl (hb hby d3_3) rfl ?_
    show Steps p.tables e below (s₁.setTop (mkF m 4 #[.val (.ref a1), .val (.long q2), .second, .val (.long q3), .second, .val (.long q4), .second, .unset, .unset, .unset, .unset] [(.long (q4 - q2))])) _
    refine X0.ldc2Long hx hown (mvT hZ (hw _ (own_w 18 rfl))) (g := (mkF m 4 #[.val (.ref a1), .val (.long q2), .second, .val (.long q3), .second, .val (.long q4), .second, .unset, .unset, .unset, .unset] [(.long (q4 - q2))])) rfl (hb hby d3_4) _ ?_
    show Steps p.tables e below (s₁.setTop (mkF m 7 #[.val (.ref a1), .val (.long q2), .second, .val (.long q3), .second, .val (.long q4), .second, .unset, .unset, .unset, .unset] [(.long (2 : Int64)), (.long (q4 - q2))])) _
    refine XS.ldiv X0.here hx rfl (hb hby d3_7) rfl (by decide) ?_
    show Steps p.tables e below (s₁.setTop (mkF m 8 #[.val (.ref a1), .val (.long q2), .second, .val (.long q3), .second, .val (.long q4), .second, .unset, .unset, .unset, .unset] [(.long ((q4 - q2) / (2 : Int64)))])) _
    refine XS.lstore X0.here hx rfl (hb hby d3_8) rfl (l' := #[.val (.ref a1), .val (.long q2), .second, .val (.long q3), .second, .val (.long q4), .second, .val (.long ((q4 - q2) / (2 : Int64))), .second, .unset, .unset]) rfl ?_
    show Steps p.tables e below (s₁.setTop (mkF m 10 #[.val (.ref a1), .val (.long q2), .second, .val (.long q3), .second, .val (.long q4), .second, .val (.long ((q4 - q2) / (2 : Int64))), .second, .unset, .unset] [])) _
    exact kt
  obtain ⟨T2, h2, X2, e2, E2, A2, D2, -, st2⟩ := newO X0 hx hZ hown (hw _ (own_w 19 rfl)) (hw _ (own_w 20 rfl)) (hw _ (own_w 21 rfl)) e0 (g := (mkF m 10 #[.val (.ref a1), .val (.long q2), .second, .val (.long q3), .second, .val (.long q4), .second, .val (.long ((q4 - q2) / (2 : Int64))), .second, .unset, .unset] [])) rfl (hb hby d3_10) (by decide) (by decide)
  obtain ⟨b2, g2⟩ : ∃ z, z = h0.size := ⟨_, rfl⟩
  rw [← g2] at A2 D2 st2
  have ne3 : a1 ≠ b2 := Nat.ne_of_lt (Nat.lt_of_lt_of_le E1.lt (Nat.le_of_eq g2.symm))
  have ge4 : n0 ≤ b2 := Nat.le_trans Z0 (Nat.le_of_eq g2.symm)
  have sz5 : h0.size ≤ b2 := Nat.le_trans kc0.1 (Nat.le_of_eq g2.symm)
  have zs6 : n0 ≤ h2.size := Nat.le_trans Z0 E2.1
  have kc7 : Keep h0 h2 [a1] := kc0.ext E2
  have fd8 : Fld Z h2 b2 "com/example/backplane/backplane/ClusterClock$Sample" "clusterMs" "J" (.long (0 : Int64)) := D2 (Or.inr (hw _ (own_w 32 rfl))) (ty := .long) (by decide)
  have fd9 : Fld Z h2 b2 "com/example/backplane/backplane/ClusterClock$Sample" "atNanos" "J" (.long (0 : Int64)) := D2 (Or.inr (hw _ (own_w 34 rfl))) (ty := .long) (by decide)
  have fd10 : Fld Z h2 b2 "com/example/backplane/backplane/ClusterClock$Sample" "errorNanos" "J" (.long (0 : Int64)) := D2 (Or.inr (hw _ (own_w 36 rfl))) (ty := .long) (by decide)
  have pre11 : own_Go p e below S0 (T2.setTop (mkF m 21 #[.val (.ref a1), .val (.long q2), .second, .val (.long q3), .second, .val (.long q4), .second, .val (.long ((q4 - q2) / (2 : Int64))), .second, .unset, .unset] [(.long ((q4 - q2) / (2 : Int64))), (.long (q2 + ((q4 - q2) / (2 : Int64)))), (.long q3), (.ref b2), (.ref b2)])) := by
    intro t kt
    refine pre1 t ?_
    refine st2 _ ?_
    show Steps p.tables e below (T2.setTop (mkF m 13 #[.val (.ref a1), .val (.long q2), .second, .val (.long q3), .second, .val (.long q4), .second, .val (.long ((q4 - q2) / (2 : Int64))), .second, .unset, .unset] [(.ref b2)])) _
    refine XS.dup X2.here hx rfl (hb hby d3_13) rfl rfl ?_
    show Steps p.tables e below (T2.setTop (mkF m 14 #[.val (.ref a1), .val (.long q2), .second, .val (.long q3), .second, .val (.long q4), .second, .val (.long ((q4 - q2) / (2 : Int64))), .second, .unset, .unset] [(.ref b2), (.ref b2)])) _
    refine XS.lloadN X2.here hx rfl (hb hby d3_14) rfl ?_
    show Steps p.tables e below (T2.setTop (mkF m 15 #[.val (.ref a1), .val (.long q2), .second, .val (.long q3), .second, .val (.long q4), .second, .val (.long ((q4 - q2) / (2 : Int64))), .second, .unset, .unset] [(.long q3), (.ref b2), (.ref b2)])) _
    refine XS.lloadN X2.here hx rfl (hb hby d3_15) rfl ?_
    show Steps p.tables e below (T2.setTop (mkF m 16 #[.val (.ref a1), .val (.long q2), .second, .val (.long q3), .second, .val (.long q4), .second, .val (.long ((q4 - q2) / (2 : Int64))), .second, .unset, .unset] [(.long q2), (.long q3), (.ref b2), (.ref b2)])) _
    refine XS.lload X2.here hx rfl (hb hby d3_16) rfl ?_
    show Steps p.tables e below (T2.setTop (mkF m 18 #[.val (.ref a1), .val (.long q2), .second, .val (.long q3), .second, .val (.long q4), .second, .val (.long ((q4 - q2) / (2 : Int64))), .second, .unset, .unset] [(.long ((q4 - q2) / (2 : Int64))), (.long q2), (.long q3), (.ref b2), (.ref b2)])) _
    refine XS.ladd X2.here hx rfl (hb hby d3_18) rfl ?_
    show Steps p.tables e below (T2.setTop (mkF m 19 #[.val (.ref a1), .val (.long q2), .second, .val (.long q3), .second, .val (.long q4), .second, .val (.long ((q4 - q2) / (2 : Int64))), .second, .unset, .unset] [(.long (q2 + ((q4 - q2) / (2 : Int64)))), (.long q3), (.ref b2), (.ref b2)])) _
    refine XS.lload X2.here hx rfl (hb hby d3_19) rfl ?_
    show Steps p.tables e below (T2.setTop (mkF m 21 #[.val (.ref a1), .val (.long q2), .second, .val (.long q3), .second, .val (.long q4), .second, .val (.long ((q4 - q2) / (2 : Int64))), .second, .unset, .unset] [(.long ((q4 - q2) / (2 : Int64))), (.long (q2 + ((q4 - q2) / (2 : Int64)))), (.long q3), (.ref b2), (.ref b2)])) _
    exact kt
  obtain ⟨_, _, ⟨T12, L12, k12, n12⟩, -, X12, ⟨Lc12, hQ12, l12, y12, z12⟩, st12⟩ := own_specialRef X2 hx hZ (y := (⟨"com/example/backplane/backplane/ClusterClock$Sample", "<init>", "(JJJ)V"⟩ : MethodName)) rfl hown (hw _ (own_w 22 rfl)) (mvT hZ (hw _ (own_w 23 rfl))) (mvT hZ (hw _ (own_w 24 rfl))) (by decide) (backOf (W := 1) (rm4 l Z a0 hw [] b2 q3 (q2 + ((q4 - q2) / (2 : Int64))) ((q4 - q2) / (2 : Int64)) h2 n0 zs6 A2 ge4 fd8 fd9 fd10) hZ (hw _ (own_w 24 rfl)) (hw _ (own_w 21 rfl)) (by decide) (by decide)) (g := (mkF m 21 #[.val (.ref a1), .val (.long q2), .second, .val (.long q3), .second, .val (.long q4), .second, .val (.long ((q4 - q2) / (2 : Int64))), .second, .unset, .unset] [(.long ((q4 - q2) / (2 : Int64))), (.long (q2 + ((q4 - q2) / (2 : Int64)))), (.long q3), (.ref b2), (.ref b2)])) rfl (by rw [hml]; rfl) (a := b2) (argsL := [(.long q3), (.long (q2 + ((q4 - q2) / (2 : Int64)))), (.long ((q4 - q2) / (2 : Int64)))]) (rest := [(.ref b2)]) (lenOf pd_1 rfl) rfl (by show 2 * 0 + _ ≤ _; exact Nat.le_of_eq rfl) (hb hby d3_21) (fun _ _ => ⟨rfl, e2, (by decide : 1 + 0 ≤ _), (by decide : 3 + 0 ≤ _)⟩)
  dsimp only [Pt.U, Pt.locs, Pt.cells, Pt.slots] at X12 l12 y12 z12 st12 hQ12
  subst l12 y12 z12
  obtain ⟨rfl, Nq12, K12, g13, g14, g15, g16⟩ := hQ12
  have N12 := Fr.app N0 Nq12
  have zs17 : n0 ≤ T12.heap.size := Nat.le_trans zs6 K12.1
  have kc18 : Keep h0 T12.heap [a1] := kc7.trans K12 (allS (Or.inr sz5) all0)
  have pre19 : own_Go p e below S0 (T12.setTop (mkF m 27 #[.val (.ref a1), .val (.long q2), .second, .val (.long q3), .second, .val (.long q4), .second, .val (.long ((q4 - q2) / (2 : Int64))), .second, .val (.ref b2), .unset] [(.ref a1)])) := by
    intro t kt
    refine pre11 t ?_
    refine st12.trans ?_
    show Steps p.tables e below (T12.setTop (mkF m 24 #[.val (.ref a1), .val (.long q2), .second, .val (.long q3), .second, .val (.long q4), .second, .val (.long ((q4 - q2) / (2 : Int64))), .second, .unset, .unset] [(.ref b2)])) _
    refine XS.astore X12.here hx rfl (hb hby d3_24) rfl rfl (l' := #[.val (.ref a1), .val (.long q2), .second, .val (.long q3), .second, .val (.long q4), .second, .val (.long ((q4 - q2) / (2 : Int64))), .second, .val (.ref b2), .unset]) rfl ?_
    show Steps p.tables e below (T12.setTop (mkF m 26 #[.val (.ref a1), .val (.long q2), .second, .val (.long q3), .second, .val (.long q4), .second, .val (.long ((q4 - q2) / (2 : Int64))), .second, .val (.ref b2), .unset] [])) _
    refine XS.aloadN X12.here hx rfl (hb hby d3_26) rfl rfl ?_
    show Steps p.tables e below (T12.setTop (mkF m 27 #[.val (.ref a1), .val (.long q2), .second, .val (.long q3), .second, .val (.long q4), .second, .val (.long ((q4 - q2) / (2 : Int64))), .second, .val (.ref b2), .unset] [(.ref a1)])) _
    exact kt
  have f20 : Fld Z T12.heap a1 "com/example/backplane/backplane/ClusterClock" "sample" "Lcom/example/backplane/backplane/ClusterClock$Sample;" .null := ((F1.ext E2).keep K12 (ninS ne3 nin0))
  obtain ⟨T21, X21, e21, st21⟩ := getF X12 hx hZ hown (host := "") (Or.inl (hw _ (own_w 37 rfl))) Via.refl rfl f20 (g := (mkF m 27 #[.val (.ref a1), .val (.long q2), .second, .val (.long q3), .second, .val (.long q4), .second, .val (.long ((q4 - q2) / (2 : Int64))), .second, .val (.ref b2), .unset] [(.ref a1)])) rfl rfl (hb hby d3_27)
  have pre22 : own_Go p e below S0 (T21.setTop (mkF m 59 #[.val (.ref a1), .val (.long q2), .second, .val (.long q3), .second, .val (.long q4), .second, .val (.long ((q4 - q2) / (2 : Int64))), .second, .val (.ref b2), .val .null] [(.ref b2), (.ref a1)])) := by
    intro t kt
    refine pre19 t ?_
    refine st21 _ ?_
    show Steps p.tables e below (T21.setTop (mkF m 30 #[.val (.ref a1), .val (.long q2), .second, .val (.long q3), .second, .val (.long q4), .second, .val (.long ((q4 - q2) / (2 : Int64))), .second, .val (.ref b2), .unset] [.null])) _
    refine XS.astore X21.here hx rfl (hb hby d3_30) rfl rfl (l' := #[.val (.ref a1), .val (.long q2), .second, .val (.long q3), .second, .val (.long q4), .second, .val (.long ((q4 - q2) / (2 : Int64))), .second, .val (.ref b2), .val .null]) rfl ?_
    show Steps p.tables e below (T21.setTop (mkF m 32 #[.val (.ref a1), .val (.long q2), .second, .val (.long q3), .second, .val (.long q4), .second, .val (.long ((q4 - q2) / (2 : Int64))), .second, .val (.ref b2), .val .null] [])) _
    refine XS.aload X21.here hx rfl (hb hby d3_32) rfl rfl ?_
    show Steps p.tables e below (T21.setTop (mkF m 34 #[.val (.ref a1), .val (.long q2), .second, .val (.long q3), .second, .val (.long q4), .second, .val (.long ((q4 - q2) / (2 : Int64))), .second, .val (.ref b2), .val .null] [.null])) _
    refine XS.ifnullYes X21.here hx rfl (pc0 := 34) (pc' := 56) rfl (hb hby d3_34) rfl (by decide) (by decide) ?_
    show Steps p.tables e below (T21.setTop (mkF m 56 #[.val (.ref a1), .val (.long q2), .second, .val (.long q3), .second, .val (.long q4), .second, .val (.long ((q4 - q2) / (2 : Int64))), .second, .val (.ref b2), .val .null] [])) _
    refine XS.aloadN X21.here hx rfl (hb hby d3_56) rfl rfl ?_
    show Steps p.tables e below (T21.setTop (mkF m 57 #[.val (.ref a1), .val (.long q2), .second, .val (.long q3), .second, .val (.long q4), .second, .val (.long ((q4 - q2) / (2 : Int64))), .second, .val (.ref b2), .val .null] [(.ref a1)])) _
    refine XS.aload X21.here hx rfl (hb hby d3_57) rfl rfl ?_
    show Steps p.tables e below (T21.setTop (mkF m 59 #[.val (.ref a1), .val (.long q2), .second, .val (.long q3), .second, .val (.long q4), .second, .val (.long ((q4 - q2) / (2 : Int64))), .second, .val (.ref b2), .val .null] [(.ref b2), (.ref a1)])) _
    exact kt
  have f23 : Exa Z T12.heap a1 "com/example/backplane/backplane/ClusterClock" := ((E1.ext E2).keep K12)
  obtain ⟨T24, h24, X24, e24, W24, st24⟩ := putF X21 hx hZ hown (host := "") (Or.inl (hw _ (own_w 37 rfl))) Via.refl e21 f20 f23 (Or.inl (hw _ (own_w 38 rfl))) (hw _ (own_w 5 rfl)) (ty := (.object "com/example/backplane/backplane/ClusterClock$Sample")) (by decide) rfl rfl (g := (mkF m 59 #[.val (.ref a1), .val (.long q2), .second, .val (.long q3), .second, .val (.long q4), .second, .val (.long ((q4 - q2) / (2 : Int64))), .second, .val (.ref b2), .val .null] [(.ref b2), (.ref a1)])) rfl rfl (hb hby d3_59)
  have N24 := Fr.snoc X24 N12 g1
  have zs25 : n0 ≤ h24.size := Nat.le_trans zs17 (Keep.of_wr W24).1
  have kc26 : Keep h0 h24 [a1] := kc18.wr W24 (Or.inl (List.mem_of_getElem? (i := 0) rfl))
  have fw24 : Fld Z h24 a1 "com/example/backplane/backplane/ClusterClock" "sample" "Lcom/example/backplane/backplane/ClusterClock$Sample;" (.ref b2) := f20.same W24
  have pre27 : own_Go p e below S0 (T24.setTop (mkF m 62 #[.val (.ref a1), .val (.long q2), .second, .val (.long q3), .second, .val (.long q4), .second, .val (.long ((q4 - q2) / (2 : Int64))), .second, .val (.ref b2), .val .null] [])) := by
    intro t kt
    refine pre22 t ?_
    refine st24 _ ?_
    show Steps p.tables e below (T24.setTop (mkF m 62 #[.val (.ref a1), .val (.long q2), .second, .val (.long q3), .second, .val (.long q4), .second, .val (.long ((q4 - q2) / (2 : Int64))), .second, .val (.ref b2), .val .null] [])) _
    exact kt
  obtain ⟨fs, hr, hrun, hended, hW, hsame⟩ := X24.leave (v := none) (fun _ => rfl)
  refine ⟨_, _, fin _ (pre27 _ ?_), hrun, hended, _, _, rfl, ?_, ⟨_, rfl⟩, hW, hsame.mono (by decide) (by decide)⟩
  · exact X24.returnOut hx Bd.returns (hb hby d3_62) hr
  have f28 : Exa Z h24 a1 "com/example/backplane/backplane/ClusterClock" := (f23.wr W24)
  have f29 : Exa Z h24 b2 "com/example/backplane/backplane/ClusterClock$Sample" := (g13.wr W24)
  have f30 : Fld Z h24 b2 "com/example/backplane/backplane/ClusterClock$Sample" "clusterMs" "J" (.long q3) := (g14.other W24 (Or.inl (Ne.symm ne3)))
  have f31 : Fld Z h24 b2 "com/example/backplane/backplane/ClusterClock$Sample" "atNanos" "J" (.long (q2 + ((q4 - q2) / (2 : Int64)))) := (g15.other W24 (Or.inl (Ne.symm ne3)))
  · show Q3 Z a1 q2 q3 q4 h0 n0 _ T24.heap _
    rw [e24]
    exact ⟨b2, rfl, N24, kc26, sz5, f28, fw24, f29, f30, f31⟩

theorem d7_0 : decode prog_2_method_6_code 0 = .ok (.aload_n 0, 1) := by decide +kernel
theorem d7_1 : decode prog_2_method_6_code 1 = .ok (.getfield 9, 3) := by decide +kernel
theorem d7_4 : decode prog_2_method_6_code 4 = .ok (.lreturn, 1) := by decide +kernel
theorem pn_7 : plainName "com/example/backplane/backplane/ClusterClock$Sample" = true := by first | (simp [plainName, overriddenIn]; done) | decide +kernel
theorem ef_7 (m : MethodId) (x0 : Addr) : entryFrame m #[(.ref x0)] 1 = mkF m 0 #[.val (.ref x0)] [] := by first | (simp [entryFrame, mkF, argsToLocals, Value.category]; done) | rfl
def Q7 (Z : State) (a1 : Addr) (u : Int64) (h0 : Heap) (n0 : Nat) (v : Option Value) (h : Heap) (L : List Loc) : Prop := v = (some (.long u)) ∧ Fr n0 L ∧ h = h0
set_option maxRecDepth 65536 in
set_option maxHeartbeats 40000000 in
theorem rm7 (l : Launch) (Z : State) (a0 : Array Value) (hw : ∀ d ∈ tables_1, d.before a0 Z = true) (ws : List Jvm.Cond) (a1 : Addr) (u : Int64) (h0 : Heap) (n0 : Nat) (Z0 : n0 ≤ h0.size) (F1 : Fld Z h0 a1 "com/example/backplane/backplane/ClusterClock$Sample" "clusterMs" "J" (.long u)) :
    MetFree l (⟨"com/example/backplane/backplane/ClusterClock$Sample", "clusterMs", "()J"⟩ : MethodName) (head1 (Jvm.Cond.code (⟨"com/example/backplane/backplane/ClusterClock$Sample", "clusterMs", "()J"⟩ : MethodName) prog_2_method_6_code 1 (some .long) :: ws) ({ frames := 0, cells := 0, slots := 0, locals := 0 } : Room)) (fun a U => a = #[(.ref a1)] ∧ Z.Warmed39 U.vm ∧ U.heap = h0) (fun _ _ _ _ _ => True) (fun _ U o U' => ∃ v L, o = .returned v ∧ Q7 Z a1 u h0 n0 v U'.heap L ∧ FrameEnd U o U' L ({ frames := 0, cells := 0, slots := 0, locals := 0 } : Room).cells ({ frames := 0, cells := 0, slots := 0, locals := 0 } : Room).slots) := by
  refine MetFree.of_bodySF (plainFor_of_name pn_7) hisR ?_
  intro p e s m args below meth c s₁ Bd hml0 hP hK
  obtain ⟨rfl, hZ, hh⟩ := hP
  have hx := Bd.exec
  have hby := Bd.bytes
  have hml : c.maxLocals = 1 := hml0
  have hown0 := findClass_of_methodNamed Bd.named
  have hown : s.vm.findClass "com/example/backplane/backplane/ClusterClock$Sample" = some m.cls := hown0
  have hnm := (name_of_methodNamed Bd.named Bd.method).1
  have X0 : Stand p l e ({ frames := 0, cells := 0, slots := 0, locals := 0 } : Room) s m #[(.ref a1)] below meth c s₁ [] 0 0 := Stand.of_body Bd
  have e0 : s₁.heap = h0 := by rw [← hh, Bd.state]; rfl
  have N0 := Fr.nil n0
  obtain ⟨S0, hS0⟩ : ∃ z, z = s₁.setTop (entryFrame m #[(.ref a1)] 1) := ⟨_, rfl⟩
  have pre0 : own_Go p e below S0 (s₁.setTop (mkF m 0 #[.val (.ref a1)] [])) := fun t k => by rw [hS0]; exact castTop (ef_7 m a1) k
  have fin : ∀ t, Steps p.tables e below S0 t → Steps p.tables e below (s₁.setTop (entryFrame m #[(.ref a1)] 1)) t := fun t k => by rw [hS0] at k; exact k
  have pre1 : own_Go p e below S0 (s₁.setTop (mkF m 1 #[.val (.ref a1)] [(.ref a1)])) := by
    intro t kt
    refine pre0 t ?_
    refine XS.aloadN X0.here hx rfl (hb hby d7_0) rfl rfl ?_
    show Steps p.tables e below (s₁.setTop (mkF m 1 #[.val (.ref a1)] [(.ref a1)])) _
    exact kt
  obtain ⟨T2, X2, e2, st2⟩ := getF X0 hx hZ hown (host := "") (Or.inl (hw _ (own_w 31 rfl))) Via.refl e0 F1 (g := (mkF m 1 #[.val (.ref a1)] [(.ref a1)])) rfl rfl (hb hby d7_1)
  have pre3 : own_Go p e below S0 (T2.setTop (mkF m 4 #[.val (.ref a1)] [(.long u)])) := by
    intro t kt
    refine pre1 t ?_
    refine st2 _ ?_
    show Steps p.tables e below (T2.setTop (mkF m 4 #[.val (.ref a1)] [(.long u)])) _
    exact kt
  obtain ⟨fs, hr, hrun, hended, hW, hsame⟩ := X2.leave (v := some (.long u)) (fun h => by rw [Bd.returns] at h; cases h)
  refine ⟨_, _, fin _ (pre3 _ ?_), hrun, hended, _, _, rfl, ?_, ⟨_, rfl⟩, hW, hsame.mono (by decide) (by decide)⟩
  · jvm_step X2.here [X2.here.top, hx, (hb hby d7_4), X2.method', Bd.returns, narrow]
    first | (intro acts; rw [hr _ acts rfl rfl rfl]) | rw [hr _ _ rfl rfl rfl]
    exact Steps.refl _
  · show Q7 Z a1 u h0 n0 _ T2.heap _
    rw [e2]
    exact ⟨rfl, N0, rfl⟩

theorem d8_0 : decode prog_2_method_7_code 0 = .ok (.aload_n 0, 1) := by decide +kernel
theorem d8_1 : decode prog_2_method_7_code 1 = .ok (.getfield 15, 3) := by decide +kernel
theorem d8_4 : decode prog_2_method_7_code 4 = .ok (.lreturn, 1) := by decide +kernel
theorem pn_8 : plainName "com/example/backplane/backplane/ClusterClock$Sample" = true := by first | (simp [plainName, overriddenIn]; done) | decide +kernel
theorem ef_8 (m : MethodId) (x0 : Addr) : entryFrame m #[(.ref x0)] 1 = mkF m 0 #[.val (.ref x0)] [] := by first | (simp [entryFrame, mkF, argsToLocals, Value.category]; done) | rfl
def Q8 (Z : State) (a1 : Addr) (u : Int64) (h0 : Heap) (n0 : Nat) (v : Option Value) (h : Heap) (L : List Loc) : Prop := v = (some (.long u)) ∧ Fr n0 L ∧ h = h0
set_option maxRecDepth 65536 in
set_option maxHeartbeats 40000000 in
theorem rm8 (l : Launch) (Z : State) (a0 : Array Value) (hw : ∀ d ∈ tables_1, d.before a0 Z = true) (ws : List Jvm.Cond) (a1 : Addr) (u : Int64) (h0 : Heap) (n0 : Nat) (Z0 : n0 ≤ h0.size) (F1 : Fld Z h0 a1 "com/example/backplane/backplane/ClusterClock$Sample" "atNanos" "J" (.long u)) :
    MetFree l (⟨"com/example/backplane/backplane/ClusterClock$Sample", "atNanos", "()J"⟩ : MethodName) (head1 (Jvm.Cond.code (⟨"com/example/backplane/backplane/ClusterClock$Sample", "atNanos", "()J"⟩ : MethodName) prog_2_method_7_code 1 (some .long) :: ws) ({ frames := 0, cells := 0, slots := 0, locals := 0 } : Room)) (fun a U => a = #[(.ref a1)] ∧ Z.Warmed39 U.vm ∧ U.heap = h0) (fun _ _ _ _ _ => True) (fun _ U o U' => ∃ v L, o = .returned v ∧ Q8 Z a1 u h0 n0 v U'.heap L ∧ FrameEnd U o U' L ({ frames := 0, cells := 0, slots := 0, locals := 0 } : Room).cells ({ frames := 0, cells := 0, slots := 0, locals := 0 } : Room).slots) := by
  refine MetFree.of_bodySF (plainFor_of_name pn_8) hisR ?_
  intro p e s m args below meth c s₁ Bd hml0 hP hK
  obtain ⟨rfl, hZ, hh⟩ := hP
  have hx := Bd.exec
  have hby := Bd.bytes
  have hml : c.maxLocals = 1 := hml0
  have hown0 := findClass_of_methodNamed Bd.named
  have hown : s.vm.findClass "com/example/backplane/backplane/ClusterClock$Sample" = some m.cls := hown0
  have hnm := (name_of_methodNamed Bd.named Bd.method).1
  have X0 : Stand p l e ({ frames := 0, cells := 0, slots := 0, locals := 0 } : Room) s m #[(.ref a1)] below meth c s₁ [] 0 0 := Stand.of_body Bd
  have e0 : s₁.heap = h0 := by rw [← hh, Bd.state]; rfl
  have N0 := Fr.nil n0
  obtain ⟨S0, hS0⟩ : ∃ z, z = s₁.setTop (entryFrame m #[(.ref a1)] 1) := ⟨_, rfl⟩
  have pre0 : own_Go p e below S0 (s₁.setTop (mkF m 0 #[.val (.ref a1)] [])) := fun t k => by rw [hS0]; exact castTop (ef_8 m a1) k
  have fin : ∀ t, Steps p.tables e below S0 t → Steps p.tables e below (s₁.setTop (entryFrame m #[(.ref a1)] 1)) t := fun t k => by rw [hS0] at k; exact k
  have pre1 : own_Go p e below S0 (s₁.setTop (mkF m 1 #[.val (.ref a1)] [(.ref a1)])) := by
    intro t kt
    refine pre0 t ?_
    refine XS.aloadN X0.here hx rfl (hb hby d8_0) rfl rfl ?_
    show Steps p.tables e below (s₁.setTop (mkF m 1 #[.val (.ref a1)] [(.ref a1)])) _
    exact kt
  obtain ⟨T2, X2, e2, st2⟩ := getF X0 hx hZ hown (host := "") (Or.inl (hw _ (own_w 33 rfl))) Via.refl e0 F1 (g := (mkF m 1 #[.val (.ref a1)] [(.ref a1)])) rfl rfl (hb hby d8_1)
  have pre3 : own_Go p e below S0 (T2.setTop (mkF m 4 #[.val (.ref a1)] [(.long u)])) := by
    intro t kt
    refine pre1 t ?_
    refine st2 _ ?_
    show Steps p.tables e below (T2.setTop (mkF m 4 #[.val (.ref a1)] [(.long u)])) _
    exact kt
  obtain ⟨fs, hr, hrun, hended, hW, hsame⟩ := X2.leave (v := some (.long u)) (fun h => by rw [Bd.returns] at h; cases h)
  refine ⟨_, _, fin _ (pre3 _ ?_), hrun, hended, _, _, rfl, ?_, ⟨_, rfl⟩, hW, hsame.mono (by decide) (by decide)⟩
  · jvm_step X2.here [X2.here.top, hx, (hb hby d8_4), X2.method', Bd.returns, narrow]
    first | (intro acts; rw [hr _ acts rfl rfl rfl]) | rw [hr _ _ rfl rfl rfl]
    exact Steps.refl _
  · show Q8 Z a1 u h0 n0 _ T2.heap _
    rw [e2]
    exact ⟨rfl, N0, rfl⟩

theorem d9_0 : decode jdk_29_method_49_code 0 = .ok (.lload_n 0, 1) := by decide +kernel
theorem d9_1 : decode jdk_29_method_49_code 1 = .ok (.lload_n 2, 1) := by decide +kernel
theorem d9_2 : decode jdk_29_method_49_code 2 = .ok (.ldiv, 1) := by decide +kernel
theorem d9_3 : decode jdk_29_method_49_code 3 = .ok (.lstore 4, 2) := by decide +kernel
theorem d9_5 : decode jdk_29_method_49_code 5 = .ok (.lload_n 0, 1) := by decide +kernel
theorem d9_6 : decode jdk_29_method_49_code 6 = .ok (.lload_n 2, 1) := by decide +kernel
theorem d9_7 : decode jdk_29_method_49_code 7 = .ok (.lxor, 1) := by decide +kernel
theorem d9_8 : decode jdk_29_method_49_code 8 = .ok (.lconst 0, 1) := by decide +kernel
theorem d9_9 : decode jdk_29_method_49_code 9 = .ok (.lcmp, 1) := by decide +kernel
theorem d9_10 : decode jdk_29_method_49_code 10 = .ok (.ifCond .ge 17, 3) := by decide +kernel
theorem d9_13 : decode jdk_29_method_49_code 13 = .ok (.lload 4, 2) := by decide +kernel
theorem d9_15 : decode jdk_29_method_49_code 15 = .ok (.lload_n 2, 1) := by decide +kernel
theorem d9_16 : decode jdk_29_method_49_code 16 = .ok (.lmul, 1) := by decide +kernel
theorem d9_17 : decode jdk_29_method_49_code 17 = .ok (.lload_n 0, 1) := by decide +kernel
theorem d9_18 : decode jdk_29_method_49_code 18 = .ok (.lcmp, 1) := by decide +kernel
theorem d9_19 : decode jdk_29_method_49_code 19 = .ok (.ifCond .eq 8, 3) := by decide +kernel
theorem d9_22 : decode jdk_29_method_49_code 22 = .ok (.lload 4, 2) := by decide +kernel
theorem d9_24 : decode jdk_29_method_49_code 24 = .ok (.lconst 1, 1) := by decide +kernel
theorem d9_25 : decode jdk_29_method_49_code 25 = .ok (.lsub, 1) := by decide +kernel
theorem d9_26 : decode jdk_29_method_49_code 26 = .ok (.lreturn, 1) := by decide +kernel
theorem d9_27 : decode jdk_29_method_49_code 27 = .ok (.lload 4, 2) := by decide +kernel
theorem d9_29 : decode jdk_29_method_49_code 29 = .ok (.lreturn, 1) := by decide +kernel
theorem ef_9 (m : MethodId) (x0 : Int64) (x1 : Int64) : entryFrame m #[(.long x0), (.long x1)] 6 = mkF m 0 #[.val (.long x0), .second, .val (.long x1), .second, .unset, .unset] [] := by first | (simp [entryFrame, mkF, argsToLocals, Value.category]; done) | rfl
def own_fd (q1 : Int64) (q2 : Int64) : Int64 := (if (q1 ^^^ q2) < (0 : Int64) then (if ((q1 / q2) * q2) = q1 then (q1 / q2) else ((q1 / q2) - (1 : Int64))) else (q1 / q2))
def Q9 (Z : State) (q1 : Int64) (q2 : Int64) (h0 : Heap) (n0 : Nat) (v : Option Value) (h : Heap) (L : List Loc) : Prop := v = (some (.long (own_fd q1 q2))) ∧ Fr n0 L ∧ h = h0
set_option maxRecDepth 65536 in
set_option maxHeartbeats 40000000 in
theorem rm9 (l : Launch) (Z : State) (a0 : Array Value) (hw : ∀ d ∈ tables_1, d.before a0 Z = true) (ws : List Jvm.Cond) (q1 : Int64) (q2 : Int64) (h0 : Heap) (n0 : Nat) (Z0 : n0 ≤ h0.size) (hz : (¬ q2 = (0 : Int64))) :
    MetFree l (⟨"java/lang/Math", "floorDiv", "(JJ)J"⟩ : MethodName) (head1 (Jvm.Cond.code (⟨"java/lang/Math", "floorDiv", "(JJ)J"⟩ : MethodName) jdk_29_method_49_code 6 (some .long) :: ws) ({ frames := 0, cells := 0, slots := 0, locals := 0 } : Room)) (fun a U => a = #[(.long q1), (.long q2)] ∧ Z.Warmed39 U.vm ∧ U.heap = h0) (fun _ _ _ _ _ => True) (fun _ U o U' => ∃ v L, o = .returned v ∧ Q9 Z q1 q2 h0 n0 v U'.heap L ∧ FrameEnd U o U' L ({ frames := 0, cells := 0, slots := 0, locals := 0 } : Room).cells ({ frames := 0, cells := 0, slots := 0, locals := 0 } : Room).slots) := by
  refine MetFree.of_bodySF (Jvm.Free.JP.mathPlain rfl (by decide +kernel)) hisR ?_
  intro p e s m args below meth c s₁ Bd hml0 hP hK
  obtain ⟨rfl, hZ, hh⟩ := hP
  have hx := Bd.exec
  have hby := Bd.bytes
  have hml : c.maxLocals = 6 := hml0
  have hown0 := findClass_of_methodNamed Bd.named
  have hown : s.vm.findClass "java/lang/Math" = some m.cls := hown0
  have hnm := (name_of_methodNamed Bd.named Bd.method).1
  have X0 : Stand p l e ({ frames := 0, cells := 0, slots := 0, locals := 0 } : Room) s m #[(.long q1), (.long q2)] below meth c s₁ [] 0 0 := Stand.of_body Bd
  have e0 : s₁.heap = h0 := by rw [← hh, Bd.state]; rfl
  have N0 := Fr.nil n0
  obtain ⟨S0, hS0⟩ : ∃ z, z = s₁.setTop (entryFrame m #[(.long q1), (.long q2)] 6) := ⟨_, rfl⟩
  have pre0 : own_Go p e below S0 (s₁.setTop (mkF m 0 #[.val (.long q1), .second, .val (.long q2), .second, .unset, .unset] [])) := fun t k => by rw [hS0]; exact castTop (ef_9 m q1 q2) k
  have fin : ∀ t, Steps p.tables e below S0 t → Steps p.tables e below (s₁.setTop (entryFrame m #[(.long q1), (.long q2)] 6)) t := fun t k => by rw [hS0] at k; exact k
  have pre2 : own_Go p e below S0 (s₁.setTop (mkF m 10 #[.val (.long q1), .second, .val (.long q2), .second, .val (.long (q1 / q2)), .second] [(.int (lcmpW (q1 ^^^ q2) (0 : Int64)))])) := by
    intro t kt
    refine pre0 t ?_
    refine XS.lloadN X0.here hx rfl (hb hby d9_0) rfl ?_
    show Steps p.tables e below (s₁.setTop (mkF m 1 #[.val (.long q1), .second, .val (.long q2), .second, .unset, .unset] [(.long q1)])) _
    refine XS.lloadN X0.here hx rfl (hb hby d9_1) rfl ?_
    show Steps p.tables e below (s₁.setTop (mkF m 2 #[.val (.long q1), .second, .val (.long q2), .second, .unset, .unset] [(.long q2), (.long q1)])) _
    refine XS.ldiv X0.here hx rfl (hb hby d9_2) rfl hz ?_
    show Steps p.tables e below (s₁.setTop (mkF m 3 #[.val (.long q1), .second, .val (.long q2), .second, .unset, .unset] [(.long (q1 / q2))])) _
    refine XS.lstore X0.here hx rfl (hb hby d9_3) rfl (l' := #[.val (.long q1), .second, .val (.long q2), .second, .val (.long (q1 / q2)), .second]) rfl ?_
    show Steps p.tables e below (s₁.setTop (mkF m 5 #[.val (.long q1), .second, .val (.long q2), .second, .val (.long (q1 / q2)), .second] [])) _
    refine XS.lloadN X0.here hx rfl (hb hby d9_5) rfl ?_
    show Steps p.tables e below (s₁.setTop (mkF m 6 #[.val (.long q1), .second, .val (.long q2), .second, .val (.long (q1 / q2)), .second] [(.long q1)])) _
    refine XS.lloadN X0.here hx rfl (hb hby d9_6) rfl ?_
    show Steps p.tables e below (s₁.setTop (mkF m 7 #[.val (.long q1), .second, .val (.long q2), .second, .val (.long (q1 / q2)), .second] [(.long q2), (.long q1)])) _
    refine XS.lxor X0.here hx rfl (hb hby d9_7) rfl ?_
    show Steps p.tables e below (s₁.setTop (mkF m 8 #[.val (.long q1), .second, .val (.long q2), .second, .val (.long (q1 / q2)), .second] [(.long (q1 ^^^ q2))])) _
    refine XS.lconst X0.here hx rfl (hb hby d9_8) ?_
    show Steps p.tables e below (s₁.setTop (mkF m 9 #[.val (.long q1), .second, .val (.long q2), .second, .val (.long (q1 / q2)), .second] [(.long (0 : Int64)), (.long (q1 ^^^ q2))])) _
    refine XS.lcmp X0.here hx rfl (hb hby d9_9) rfl ?_
    show Steps p.tables e below (s₁.setTop (mkF m 10 #[.val (.long q1), .second, .val (.long q2), .second, .val (.long (q1 / q2)), .second] [(.int (lcmpW (q1 ^^^ q2) (0 : Int64)))])) _
    exact kt
  by_cases hc1 : (q1 ^^^ q2) < (0 : Int64)
  · have pre4 : own_Go p e below S0 (s₁.setTop (mkF m 19 #[.val (.long q1), .second, .val (.long q2), .second, .val (.long (q1 / q2)), .second] [(.int (lcmpW ((q1 / q2) * q2) q1))])) := by
      intro t kt
      refine pre2 t ?_
      refine XS.ifNo X0.here hx rfl (hb hby d9_10) rfl ((if0 _ _).trans (tlt ((lw_lt _ _).mpr hc1)).2.1) ?_
      show Steps p.tables e below (s₁.setTop (mkF m 13 #[.val (.long q1), .second, .val (.long q2), .second, .val (.long (q1 / q2)), .second] [])) _
      refine XS.lload X0.here hx rfl (hb hby d9_13) rfl ?_
      show Steps p.tables e below (s₁.setTop (mkF m 15 #[.val (.long q1), .second, .val (.long q2), .second, .val (.long (q1 / q2)), .second] [(.long (q1 / q2))])) _
      refine XS.lloadN X0.here hx rfl (hb hby d9_15) rfl ?_
      show Steps p.tables e below (s₁.setTop (mkF m 16 #[.val (.long q1), .second, .val (.long q2), .second, .val (.long (q1 / q2)), .second] [(.long q2), (.long (q1 / q2))])) _
      refine XS.lmul X0.here hx rfl (hb hby d9_16) rfl ?_
      show Steps p.tables e below (s₁.setTop (mkF m 17 #[.val (.long q1), .second, .val (.long q2), .second, .val (.long (q1 / q2)), .second] [(.long ((q1 / q2) * q2))])) _
      refine XS.lloadN X0.here hx rfl (hb hby d9_17) rfl ?_
      show Steps p.tables e below (s₁.setTop (mkF m 18 #[.val (.long q1), .second, .val (.long q2), .second, .val (.long (q1 / q2)), .second] [(.long q1), (.long ((q1 / q2) * q2))])) _
      refine XS.lcmp X0.here hx rfl (hb hby d9_18) rfl ?_
      show Steps p.tables e below (s₁.setTop (mkF m 19 #[.val (.long q1), .second, .val (.long q2), .second, .val (.long (q1 / q2)), .second] [(.int (lcmpW ((q1 / q2) * q2) q1))])) _
      exact kt
    by_cases hc3 : ((q1 / q2) * q2) = q1
    · have pre5 : own_Go p e below S0 (s₁.setTop (mkF m 29 #[.val (.long q1), .second, .val (.long q2), .second, .val (.long (q1 / q2)), .second] [(.long (q1 / q2))])) := by
        intro t kt
        refine pre4 t ?_
        refine XS.ifYes X0.here hx rfl (pc0 := 19) (pc' := 27) rfl (hb hby d9_19) rfl ((if0 _ _).trans (teq ((lw_eq _ _).mpr hc3)).1) (by decide) (by decide) ?_
        show Steps p.tables e below (s₁.setTop (mkF m 27 #[.val (.long q1), .second, .val (.long q2), .second, .val (.long (q1 / q2)), .second] [])) _
        refine XS.lload X0.here hx rfl (hb hby d9_27) rfl ?_
        show Steps p.tables e below (s₁.setTop (mkF m 29 #[.val (.long q1), .second, .val (.long q2), .second, .val (.long (q1 / q2)), .second] [(.long (q1 / q2))])) _
        exact kt
      obtain ⟨fs, hr, hrun, hended, hW, hsame⟩ := X0.leave (v := some (.long (q1 / q2))) (fun h => by rw [Bd.returns] at h; cases h)
      refine ⟨_, _, fin _ (pre5 _ ?_), hrun, hended, _, _, rfl, ?_, ⟨_, rfl⟩, hW, hsame.mono (by decide) (by decide)⟩
      · jvm_step X0.here [X0.here.top, hx, (hb hby d9_29), X0.method', Bd.returns, narrow]
        first | (intro acts; rw [hr _ acts rfl rfl rfl]) | rw [hr _ _ rfl rfl rfl]
        exact Steps.refl _
      · show Q9 Z q1 q2 h0 n0 _ s₁.heap _
        rw [e0]
        exact ⟨(by show some _ = some _; rw [own_fd, if_pos hc1, if_pos hc3]), N0, rfl⟩
    · have pre6 : own_Go p e below S0 (s₁.setTop (mkF m 26 #[.val (.long q1), .second, .val (.long q2), .second, .val (.long (q1 / q2)), .second] [(.long ((q1 / q2) - (1 : Int64)))])) := by
        intro t kt
        refine pre4 t ?_
        refine XS.ifNo X0.here hx rfl (hb hby d9_19) rfl ((if0 _ _).trans (feq (fun q => hc3 ((lw_eq _ _).mp q))).1) ?_
        show Steps p.tables e below (s₁.setTop (mkF m 22 #[.val (.long q1), .second, .val (.long q2), .second, .val (.long (q1 / q2)), .second] [])) _
        refine XS.lload X0.here hx rfl (hb hby d9_22) rfl ?_
        show Steps p.tables e below (s₁.setTop (mkF m 24 #[.val (.long q1), .second, .val (.long q2), .second, .val (.long (q1 / q2)), .second] [(.long (q1 / q2))])) _
        refine XS.lconst X0.here hx rfl (hb hby d9_24) ?_
        show Steps p.tables e below (s₁.setTop (mkF m 25 #[.val (.long q1), .second, .val (.long q2), .second, .val (.long (q1 / q2)), .second] [(.long (1 : Int64)), (.long (q1 / q2))])) _
        refine XS.lsub X0.here hx rfl (hb hby d9_25) rfl ?_
        show Steps p.tables e below (s₁.setTop (mkF m 26 #[.val (.long q1), .second, .val (.long q2), .second, .val (.long (q1 / q2)), .second] [(.long ((q1 / q2) - (1 : Int64)))])) _
        exact kt
      obtain ⟨fs, hr, hrun, hended, hW, hsame⟩ := X0.leave (v := some (.long ((q1 / q2) - (1 : Int64)))) (fun h => by rw [Bd.returns] at h; cases h)
      refine ⟨_, _, fin _ (pre6 _ ?_), hrun, hended, _, _, rfl, ?_, ⟨_, rfl⟩, hW, hsame.mono (by decide) (by decide)⟩
      · jvm_step X0.here [X0.here.top, hx, (hb hby d9_26), X0.method', Bd.returns, narrow]
        first | (intro acts; rw [hr _ acts rfl rfl rfl]) | rw [hr _ _ rfl rfl rfl]
        exact Steps.refl _
      · show Q9 Z q1 q2 h0 n0 _ s₁.heap _
        rw [e0]
        exact ⟨(by show some _ = some _; rw [own_fd, if_pos hc1, if_neg hc3]), N0, rfl⟩
  · have pre7 : own_Go p e below S0 (s₁.setTop (mkF m 29 #[.val (.long q1), .second, .val (.long q2), .second, .val (.long (q1 / q2)), .second] [(.long (q1 / q2))])) := by
      intro t kt
      refine pre2 t ?_
      refine XS.ifYes X0.here hx rfl (pc0 := 10) (pc' := 27) rfl (hb hby d9_10) rfl ((if0 _ _).trans (flt (fun q => hc1 ((lw_lt _ _).mp q))).2.1) (by decide) (by decide) ?_
      show Steps p.tables e below (s₁.setTop (mkF m 27 #[.val (.long q1), .second, .val (.long q2), .second, .val (.long (q1 / q2)), .second] [])) _
      refine XS.lload X0.here hx rfl (hb hby d9_27) rfl ?_
      show Steps p.tables e below (s₁.setTop (mkF m 29 #[.val (.long q1), .second, .val (.long q2), .second, .val (.long (q1 / q2)), .second] [(.long (q1 / q2))])) _
      exact kt
    obtain ⟨fs, hr, hrun, hended, hW, hsame⟩ := X0.leave (v := some (.long (q1 / q2))) (fun h => by rw [Bd.returns] at h; cases h)
    refine ⟨_, _, fin _ (pre7 _ ?_), hrun, hended, _, _, rfl, ?_, ⟨_, rfl⟩, hW, hsame.mono (by decide) (by decide)⟩
    · jvm_step X0.here [X0.here.top, hx, (hb hby d9_29), X0.method', Bd.returns, narrow]
      first | (intro acts; rw [hr _ acts rfl rfl rfl]) | rw [hr _ _ rfl rfl rfl]
      exact Steps.refl _
    · show Q9 Z q1 q2 h0 n0 _ s₁.heap _
      rw [e0]
      exact ⟨(by show some _ = some _; rw [own_fd, if_neg hc1]), N0, rfl⟩

theorem d6_0 : decode prog_1_method_5_code 0 = .ok (.aload_n 0, 1) := by decide +kernel
theorem d6_1 : decode prog_1_method_5_code 1 = .ok (.getfield 30, 3) := by decide +kernel
theorem d6_4 : decode prog_1_method_5_code 4 = .ok (.astore_n 3, 1) := by decide +kernel
theorem d6_5 : decode prog_1_method_5_code 5 = .ok (.aload_n 3, 1) := by decide +kernel
theorem d6_6 : decode prog_1_method_5_code 6 = .ok (.invokevirtual 46, 3) := by decide +kernel
theorem d6_9 : decode prog_1_method_5_code 9 = .ok (.lload_n 1, 1) := by decide +kernel
theorem d6_10 : decode prog_1_method_5_code 10 = .ok (.aload_n 3, 1) := by decide +kernel
theorem d6_11 : decode prog_1_method_5_code 11 = .ok (.invokevirtual 36, 3) := by decide +kernel
theorem d6_14 : decode prog_1_method_5_code 14 = .ok (.lsub, 1) := by decide +kernel
theorem d6_15 : decode prog_1_method_5_code 15 = .ok (.ldc2_w 49, 3) := by decide +kernel
theorem d6_18 : decode prog_1_method_5_code 18 = .ok (.invokestatic 51, 3) := by decide +kernel
theorem d6_21 : decode prog_1_method_5_code 21 = .ok (.ladd, 1) := by decide +kernel
theorem d6_22 : decode prog_1_method_5_code 22 = .ok (.lreturn, 1) := by decide +kernel
theorem pn_6 : plainName "com/example/backplane/backplane/ClusterClock" = true := by first | (simp [plainName, overriddenIn]; done) | decide +kernel
theorem pd_2 : parseMethodDescriptor "()J" = some ⟨[], some .long⟩ := by decide +kernel
theorem pd_3 : parseMethodDescriptor "(JJ)J" = some ⟨[.long, .long], some .long⟩ := by decide +kernel
theorem ef_6 (m : MethodId) (x0 : Addr) (x1 : Int64) : entryFrame m #[(.ref x0), (.long x1)] 4 = mkF m 0 #[.val (.ref x0), .val (.long x1), .second, .unset] [] := by first | (simp [entryFrame, mkF, argsToLocals, Value.category]; done) | rfl
def Q6 (Z : State) (a1 : Addr) (q2 : Int64) (b : Addr) (u1 : Int64) (u2 : Int64) (h0 : Heap) (n0 : Nat) (v : Option Value) (h : Heap) (L : List Loc) : Prop := v = (some (.long (u1 + (own_fd (q2 - u2) (1000000 : Int64))))) ∧ Fr n0 L ∧ h = h0
set_option maxRecDepth 65536 in
set_option maxHeartbeats 40000000 in
theorem rm6 (l : Launch) (Z : State) (a0 : Array Value) (hw : ∀ d ∈ tables_1, d.before a0 Z = true) (ws : List Jvm.Cond) (a1 : Addr) (q2 : Int64) (b : Addr) (u1 : Int64) (u2 : Int64) (h0 : Heap) (n0 : Nat) (Z0 : n0 ≤ h0.size) (F1 : Fld Z h0 a1 "com/example/backplane/backplane/ClusterClock" "sample" "Lcom/example/backplane/backplane/ClusterClock$Sample;" (.ref b)) (E2 : Exa Z h0 b "com/example/backplane/backplane/ClusterClock$Sample") (F2 : Fld Z h0 b "com/example/backplane/backplane/ClusterClock$Sample" "clusterMs" "J" (.long u1)) (F3 : Fld Z h0 b "com/example/backplane/backplane/ClusterClock$Sample" "atNanos" "J" (.long u2)) :
    MetFree l (⟨"com/example/backplane/backplane/ClusterClock", "at", "(J)J"⟩ : MethodName) (head1 (Jvm.Cond.code (⟨"com/example/backplane/backplane/ClusterClock", "at", "(J)J"⟩ : MethodName) prog_1_method_5_code 4 (some .long) :: ws) ({ frames := 1, cells := 0, slots := 0, locals := 19 } : Room)) (fun a U => a = #[(.ref a1), (.long q2)] ∧ Z.Warmed39 U.vm ∧ U.heap = h0) (fun _ _ _ _ _ => True) (fun _ U o U' => ∃ v L, o = .returned v ∧ Q6 Z a1 q2 b u1 u2 h0 n0 v U'.heap L ∧ FrameEnd U o U' L ({ frames := 1, cells := 0, slots := 0, locals := 19 } : Room).cells ({ frames := 1, cells := 0, slots := 0, locals := 19 } : Room).slots) := by
  refine MetFree.of_bodySF (plainFor_of_name pn_6) hisR ?_
  intro p e s m args below meth c s₁ Bd hml0 hP hK
  obtain ⟨rfl, hZ, hh⟩ := hP
  have hx := Bd.exec
  have hby := Bd.bytes
  have hml : c.maxLocals = 4 := hml0
  have hown0 := findClass_of_methodNamed Bd.named
  have hown : s.vm.findClass "com/example/backplane/backplane/ClusterClock" = some m.cls := hown0
  have hnm := (name_of_methodNamed Bd.named Bd.method).1
  have X0 : Stand p l e ({ frames := 1, cells := 0, slots := 0, locals := 19 } : Room) s m #[(.ref a1), (.long q2)] below meth c s₁ [] 0 0 := Stand.of_body Bd
  have e0 : s₁.heap = h0 := by rw [← hh, Bd.state]; rfl
  have N0 := Fr.nil n0
  obtain ⟨S0, hS0⟩ : ∃ z, z = s₁.setTop (entryFrame m #[(.ref a1), (.long q2)] 4) := ⟨_, rfl⟩
  have pre0 : own_Go p e below S0 (s₁.setTop (mkF m 0 #[.val (.ref a1), .val (.long q2), .second, .unset] [])) := fun t k => by rw [hS0]; exact castTop (ef_6 m a1 q2) k
  have fin : ∀ t, Steps p.tables e below S0 t → Steps p.tables e below (s₁.setTop (entryFrame m #[(.ref a1), (.long q2)] 4)) t := fun t k => by rw [hS0] at k; exact k
  have pre1 : own_Go p e below S0 (s₁.setTop (mkF m 1 #[.val (.ref a1), .val (.long q2), .second, .unset] [(.ref a1)])) := by
    intro t kt
    refine pre0 t ?_
    refine XS.aloadN X0.here hx rfl (hb hby d6_0) rfl rfl ?_
    show Steps p.tables e below (s₁.setTop (mkF m 1 #[.val (.ref a1), .val (.long q2), .second, .unset] [(.ref a1)])) _
    exact kt
  obtain ⟨T2, X2, e2, st2⟩ := getF X0 hx hZ hown (host := "") (Or.inl (hw _ (own_w 37 rfl))) Via.refl e0 F1 (g := (mkF m 1 #[.val (.ref a1), .val (.long q2), .second, .unset] [(.ref a1)])) rfl rfl (hb hby d6_1)
  have pre3 : own_Go p e below S0 (T2.setTop (mkF m 6 #[.val (.ref a1), .val (.long q2), .second, .val (.ref b)] [(.ref b)])) := by
    intro t kt
    refine pre1 t ?_
    refine st2 _ ?_
    show Steps p.tables e below (T2.setTop (mkF m 4 #[.val (.ref a1), .val (.long q2), .second, .unset] [(.ref b)])) _
    refine XS.astoreN X2.here hx rfl (hb hby d6_4) rfl rfl (l' := #[.val (.ref a1), .val (.long q2), .second, .val (.ref b)]) rfl ?_
    show Steps p.tables e below (T2.setTop (mkF m 5 #[.val (.ref a1), .val (.long q2), .second, .val (.ref b)] [])) _
    refine XS.aloadN X2.here hx rfl (hb hby d6_5) rfl rfl ?_
    show Steps p.tables e below (T2.setTop (mkF m 6 #[.val (.ref a1), .val (.long q2), .second, .val (.ref b)] [(.ref b)])) _
    exact kt
  obtain ⟨cq4, kq4, qa4, qb4, qc4⟩ := isOf hZ e2 E2
  obtain ⟨_, _, ⟨T4, L4, k4, n4⟩, -, X4, ⟨Lc4, hQ4, l4, y4, z4⟩, st4⟩ := X2.virtualBack hx (y := (⟨"com/example/backplane/backplane/ClusterClock$Sample", "clusterMs", "()J"⟩ : MethodName)) (z := (⟨"com/example/backplane/backplane/ClusterClock$Sample", "clusterMs", "()J"⟩ : MethodName)) hown (mvT hZ (hw _ (own_w 44 rfl))) (mvT hZ (hw _ (own_w 45 rfl))) (notFace_of_selects (args := #[]) (mvT hZ (hw _ (own_w 47 rfl)))) (mvT hZ (hw _ (own_w 47 rfl))) (mvT hZ (hw _ (own_w 46 rfl))) (by decide) (backOf (W := 0) (rm7 l Z a0 hw [] b u1 h0 n0 Z0 F2) hZ (hw _ (own_w 48 rfl)) (hw _ (own_w 21 rfl)) (by decide) (by decide)) qa4 qc4 (g := (mkF m 6 #[.val (.ref a1), .val (.long q2), .second, .val (.ref b)] [(.ref b)])) rfl (by rw [hml]; rfl) (Steps.refl _) (argsL := []) (rest := []) (lenOf pd_2 rfl) rfl (by show 2 * 0 + _ ≤ _; exact Nat.le_of_eq rfl) (hb hby d6_6) (fun _ _ => ⟨rfl, e2, (by decide : 0 + 0 ≤ _), (by decide : 0 + 0 ≤ _)⟩)
  dsimp only [Pt.U, Pt.locs, Pt.cells, Pt.slots] at X4 l4 y4 z4 st4 hQ4
  subst l4 y4 z4
  obtain ⟨rfl, Nq4, eq4⟩ := hQ4
  have N4 := Fr.app N0 Nq4
  have pre5 : own_Go p e below S0 (T4.setTop (mkF m 11 #[.val (.ref a1), .val (.long q2), .second, .val (.ref b)] [(.ref b), (.long q2), (.long u1)])) := by
    intro t kt
    refine pre3 t ?_
    refine st4.trans ?_
    show Steps p.tables e below (T4.setTop (mkF m 9 #[.val (.ref a1), .val (.long q2), .second, .val (.ref b)] [(.long u1)])) _
    refine XS.lloadN X4.here hx rfl (hb hby d6_9) rfl ?_
    show Steps p.tables e below (T4.setTop (mkF m 10 #[.val (.ref a1), .val (.long q2), .second, .val (.ref b)] [(.long q2), (.long u1)])) _
    refine XS.aloadN X4.here hx rfl (hb hby d6_10) rfl rfl ?_
    show Steps p.tables e below (T4.setTop (mkF m 11 #[.val (.ref a1), .val (.long q2), .second, .val (.ref b)] [(.ref b), (.long q2), (.long u1)])) _
    exact kt
  obtain ⟨cq6, kq6, qa6, qb6, qc6⟩ := isOf hZ eq4 E2
  obtain ⟨_, _, ⟨T6, L6, k6, n6⟩, -, X6, ⟨Lc6, hQ6, l6, y6, z6⟩, st6⟩ := X4.virtualBack hx (y := (⟨"com/example/backplane/backplane/ClusterClock$Sample", "atNanos", "()J"⟩ : MethodName)) (z := (⟨"com/example/backplane/backplane/ClusterClock$Sample", "atNanos", "()J"⟩ : MethodName)) hown (mvT hZ (hw _ (own_w 49 rfl))) (mvT hZ (hw _ (own_w 50 rfl))) (notFace_of_selects (args := #[]) (mvT hZ (hw _ (own_w 52 rfl)))) (mvT hZ (hw _ (own_w 52 rfl))) (mvT hZ (hw _ (own_w 51 rfl))) (by decide) (backOf (W := 4) (rm8 l Z a0 hw [] b u2 h0 n0 Z0 F3) hZ (hw _ (own_w 53 rfl)) (hw _ (own_w 21 rfl)) (by decide) (by decide)) qa6 qc6 (g := (mkF m 11 #[.val (.ref a1), .val (.long q2), .second, .val (.ref b)] [(.ref b), (.long q2), (.long u1)])) rfl (by rw [hml]; rfl) (Steps.refl _) (argsL := []) (rest := [(.long q2), (.long u1)]) (lenOf pd_2 rfl) rfl (by show 2 * 0 + _ ≤ _; exact Nat.le_of_eq rfl) (hb hby d6_11) (fun _ _ => ⟨rfl, eq4, (by decide : 0 + 0 ≤ _), (by decide : 0 + 0 ≤ _)⟩)
  dsimp only [Pt.U, Pt.locs, Pt.cells, Pt.slots] at X6 l6 y6 z6 st6 hQ6
  subst l6 y6 z6
  obtain ⟨rfl, Nq6, eq6⟩ := hQ6
  have N6 := Fr.app N4 Nq6
  have pre7 : own_Go p e below S0 (T6.setTop (mkF m 18 #[.val (.ref a1), .val (.long q2), .second, .val (.ref b)] [(.long (1000000 : Int64)), (.long (q2 - u2)), (.long u1)])) := by
    intro t kt
    refine pre5 t ?_
    refine st6.trans ?_
    show Steps p.tables e below (T6.setTop (mkF m 14 #[.val (.ref a1), .val (.long q2), .second, .val (.ref b)] [(.long u2), (.long q2), (.long u1)])) _
    refine XS.lsub X6.here hx rfl (hb hby d6_14) rfl ?_
    show Steps p.tables e below (T6.setTop (mkF m 15 #[.val (.ref a1), .val (.long q2), .second, .val (.ref b)] [(.long (q2 - u2)), (.long u1)])) _
    refine X6.ldc2Long hx hown (mvT hZ (hw _ (own_w 54 rfl))) (g := (mkF m 15 #[.val (.ref a1), .val (.long q2), .second, .val (.ref b)] [(.long (q2 - u2)), (.long u1)])) rfl (hb hby d6_15) _ ?_
    show Steps p.tables e below (T6.setTop (mkF m 18 #[.val (.ref a1), .val (.long q2), .second, .val (.ref b)] [(.long (1000000 : Int64)), (.long (q2 - u2)), (.long u1)])) _
    exact kt
  obtain ⟨_, _, ⟨T8, L8, k8, n8⟩, -, X8, ⟨Lc8, hQ8, l8, y8, z8⟩, st8⟩ := Jvm.LawKit.callS X6 hx (y := (⟨"java/lang/Math", "floorDiv", "(JJ)J"⟩ : MethodName)) hown (mvT hZ (hw _ (own_w 55 rfl))) (mvT hZ (hw _ (own_w 56 rfl))) (mvT hZ (hw _ (own_w 57 rfl))) (mvT hZ (hw _ (own_w 58 rfl))) (by decide) (backOf (W := 2) (rm9 l Z a0 hw [] (q2 - u2) (1000000 : Int64) h0 n0 Z0 (by decide)) hZ (hw _ (own_w 58 rfl)) (hw _ (own_w 57 rfl)) (by decide) (by decide)) (g := (mkF m 18 #[.val (.ref a1), .val (.long q2), .second, .val (.ref b)] [(.long (1000000 : Int64)), (.long (q2 - u2)), (.long u1)])) rfl (by rw [hml]; rfl) (argsL := [(.long (q2 - u2)), (.long (1000000 : Int64))]) (rest := [(.long u1)]) (lenOf pd_3 rfl) rfl (by show 2 * 0 + _ ≤ _; exact Nat.le_of_eq rfl) (hb hby d6_18) (fun _ _ => ⟨rfl, eq6, (by decide : 0 + 0 ≤ _), (by decide : 0 + 0 ≤ _)⟩)
  dsimp only [Pt.U, Pt.locs, Pt.cells, Pt.slots] at X8 l8 y8 z8 st8 hQ8
  subst l8 y8 z8
  obtain ⟨rfl, Nq8, eq8⟩ := hQ8
  have N8 := Fr.app N6 Nq8
  have pre9 : own_Go p e below S0 (T8.setTop (mkF m 22 #[.val (.ref a1), .val (.long q2), .second, .val (.ref b)] [(.long (u1 + (own_fd (q2 - u2) (1000000 : Int64))))])) := by
    intro t kt
    refine pre7 t ?_
    refine st8 _ ?_
    show Steps p.tables e below (T8.setTop (mkF m 21 #[.val (.ref a1), .val (.long q2), .second, .val (.ref b)] [(.long (own_fd (q2 - u2) (1000000 : Int64))), (.long u1)])) _
    refine XS.ladd X8.here hx rfl (hb hby d6_21) rfl ?_
    show Steps p.tables e below (T8.setTop (mkF m 22 #[.val (.ref a1), .val (.long q2), .second, .val (.ref b)] [(.long (u1 + (own_fd (q2 - u2) (1000000 : Int64))))])) _
    exact kt
  obtain ⟨fs, hr, hrun, hended, hW, hsame⟩ := X8.leave (v := some (.long (u1 + (own_fd (q2 - u2) (1000000 : Int64))))) (fun h => by rw [Bd.returns] at h; cases h)
  refine ⟨_, _, fin _ (pre9 _ ?_), hrun, hended, _, _, rfl, ?_, ⟨_, rfl⟩, hW, hsame.mono (by decide) (by decide)⟩
  · jvm_step X8.here [X8.here.top, hx, (hb hby d6_22), X8.method', Bd.returns, narrow]
    first | (intro acts; rw [hr _ acts rfl rfl rfl]) | rw [hr _ _ rfl rfl rfl]
    exact Steps.refl _
  · show Q6 Z a1 q2 b u1 u2 h0 n0 _ T8.heap _
    rw [eq8]
    exact ⟨rfl, N8, rfl⟩

theorem own_fdk (k : Int32) (r : Int) (d : Int64) (h0 : 0 ≤ r) (h1 : r < 1000000) (hd : d.toInt = k.toInt * 1000000 + r) : own_fd d 1000000 = k.toInt64 := by
  have hk := rng32 k
  have hdv := c_ldiv d 1000000 1000000 rfl (by decide)
  have hx := c_xorSL d 1000000
  have e1 : (1000000 : Int64).toInt = 1000000 := rfl
  have e2 : (1 : Int64).toInt = 1 := rfl
  have e0 : (0 : Int64).toInt = 0 := rfl
  have hm := c_lmul (d / 1000000) 1000000
  have hs := c_lsub (d / 1000000) 1
  rw [e1] at hm hx
  rw [e2] at hs
  have r1 := rng64 (d / 1000000)
  have r2 := rng64 ((d / 1000000) * 1000000)
  have r3 := rng64 (d / 1000000 - 1)
  have ek := c_i2l k
  unfold own_fd
  by_cases hn : d.toInt < 0
  · have hq := hdv.2 hn
    have hneg : (d ^^^ 1000000) < (0 : Int64) := by
      rw [Int64.lt_iff_toInt_lt, e0]; exact hx.2.1 hn (by omega)
    rw [if_pos hneg]
    by_cases he : (d / 1000000) * 1000000 = d
    · rw [if_pos he]
      have h4 := congrArg Int64.toInt he
      exact Int64.toInt_inj.mp (by omega)
    · rw [if_neg he]
      have h4 : ((d / 1000000) * 1000000).toInt ≠ d.toInt := fun q => he (Int64.toInt_inj.mp q)
      exact Int64.toInt_inj.mp (by omega)
  · have hq := hdv.1 (by omega)
    have hpos : ¬ (d ^^^ 1000000) < (0 : Int64) := by
      rw [Int64.lt_iff_toInt_lt, e0]; have := hx.2.2.2 (by omega) (by omega); omega
    rw [if_neg hpos]
    exact Int64.toInt_inj.mp (by omega)
theorem own_law0 (p q H O R : Int64) (k : Int32) (hH : 0 ≤ H.toInt ∧ H.toInt < 4611686018427387904) (hO : 0 ≤ O.toInt ∧ O.toInt < 2) (hR : 0 ≤ R.toInt ∧ R.toInt < 1000000) :
    (q + (own_fd ((((p + H) + ((k.toInt64) * (1000000 : Int64))) + R) - (p + ((((p + ((2 : Int64) * H)) + O) - p) / (2 : Int64)))) (1000000 : Int64))) = q + (k.toInt64) := by
  have hk := rng32 k
  have ek := c_i2l k
  have a1 := c_lmul 2 H
  rw [show (2 : Int64).toInt = 2 from rfl] at a1
  have a2 := c_ladd p (2 * H)
  have a3 := c_ladd (p + 2 * H) O
  have a4 := c_lsub (p + 2 * H + O) p
  have g1 := rng64 (p + 2 * H + O - p)
  have e1 : (p + 2 * H + O - p).toInt = 2 * H.toInt + O.toInt := by omega
  have dv := (c_ldiv (p + 2 * H + O - p) 2 2 rfl (by decide)).1 (by omega)
  have e2 : ((p + 2 * H + O - p) / 2).toInt = H.toInt := by omega
  have b1 := c_ladd p ((p + 2 * H + O - p) / 2)
  have b2 := c_ladd p H
  have b3 := c_lmul k.toInt64 1000000
  rw [show (1000000 : Int64).toInt = 1000000 from rfl] at b3
  have b4 := c_ladd (p + H) (k.toInt64 * 1000000)
  have b5 := c_ladd (p + H + k.toInt64 * 1000000) R
  have b6 := c_lsub (p + H + k.toInt64 * 1000000 + R) (p + (p + 2 * H + O - p) / 2)
  have g2 := rng64 (p + H + k.toInt64 * 1000000 + R - (p + (p + 2 * H + O - p) / 2))
  clear a1 a2 a3 a4 g1 e1 dv
  have eD : (p + H + k.toInt64 * 1000000 + R - (p + (p + 2 * H + O - p) / 2)).toInt = k.toInt * 1000000 + R.toInt := by omega
  rw [own_fdk k R.toInt _ hR.1 hR.2 eD]
theorem own_law (p q : Int64) (u : Int64) (k r0 o0 : Int32) :
    (q + (own_fd ((((p + ((u.toUInt64 >>> ((2 : Int32) &&& 0x3f).toInt64.toUInt64).toInt64)) + ((k.toInt64) * (1000000 : Int64))) + (((r0 &&& (2147483647 : Int32)) % (1000000 : Int32)).toInt64)) - (p + ((((p + ((2 : Int64) * ((u.toUInt64 >>> ((2 : Int32) &&& 0x3f).toInt64.toUInt64).toInt64))) + ((o0 &&& (1 : Int32)).toInt64)) - p) / (2 : Int64)))) (1000000 : Int64))) = q + (k.toInt64) := by
  have h1 := c_lushr u 2 2 (by decide) (by decide)
  have h2 := c_mask o0 1 1 (by decide) (by decide)
  have h3 := c_i2l (o0 &&& 1)
  have h4 := c_mask r0 2147483647 31 (by decide) (by decide)
  have h5 := (c_irem (r0 &&& 2147483647) 1000000 1000000 rfl).1 (by omega)
  have h6 := c_i2l ((r0 &&& 2147483647) % 1000000)
  refine own_law0 p q _ _ _ k ?_ ?_ ?_
  · omega
  · omega
  · omega

theorem pn_0 : plainName "com/example/backplane/backplane/ClusterClockAtPinLaw" = true := by first | (simp [plainName, overriddenIn]; done) | decide +kernel
theorem pd_4 : parseMethodDescriptor "(J)J" = some ⟨[.long], some .long⟩ := by decide +kernel
theorem ef_0 (m : MethodId) (x0 : Int64) (x1 : Int64) (x2 : Int64) (x3 : Int32) (x4 : Int32) (x5 : Int32) : entryFrame m #[(.long x0), (.long x1), (.long x2), (.int x3), (.int x4), (.int x5)] maxLocals = mkF m 0 #[.val (.long x0), .second, .val (.long x1), .second, .val (.long x2), .second, .val (.int x3), .val (.int x4), .val (.int x5), .unset, .unset, .unset, .unset, .unset, .unset, .unset, .unset, .unset, .unset, .unset, .unset, .unset, .unset, .unset, .unset, .unset] [] := by first | (simp [entryFrame, mkF, argsToLocals, Value.category, maxLocals]; done) | rfl
def Q0 (Z : State) (q1 : Int64) (q2 : Int64) (q3 : Int64) (p4 : Int32) (p5 : Int32) (p6 : Int32) (h0 : Heap) (n0 : Nat) (v : Option Value) (h : Heap) (L : List Loc) : Prop := v = (some (.int 1)) ∧ Fr n0 L
set_option maxRecDepth 65536 in
set_option maxHeartbeats 40000000 in
theorem rm0 (l : Launch) (Z : State) (a0 : Array Value) (hw : ∀ d ∈ tables_1, d.before a0 Z = true) (ws : List Jvm.Cond) (q1 : Int64) (q2 : Int64) (q3 : Int64) (p4 : Int32) (p5 : Int32) (p6 : Int32) (h0 : Heap) (n0 : Nat) (Z0 : n0 ≤ h0.size) :
    MetFree l x (head1 (Jvm.Cond.code x code maxLocals ret :: ws) room_1) (fun a U => a = #[(.long q1), (.long q2), (.long q3), (.int p4), (.int p5), (.int p6)] ∧ Z.Warmed39 U.vm ∧ U.heap = h0) (fun _ _ _ _ _ => True) (fun _ U o U' => ∃ v L, o = .returned v ∧ Q0 Z q1 q2 q3 p4 p5 p6 h0 n0 v U'.heap L ∧ FrameEnd U o U' L 2 4) := by
  refine MetFree.of_bodySF (plainFor_of_name pn_0) hisR ?_
  intro p e s m args below meth c s₁ Bd hml0 hP hK
  obtain ⟨rfl, hZ, hh⟩ := hP
  have hx := Bd.exec
  have hby := Bd.bytes
  have hml : c.maxLocals = 26 := hml0
  have hown0 := findClass_of_methodNamed Bd.named
  have hown : s.vm.findClass "com/example/backplane/backplane/ClusterClockAtPinLaw" = some m.cls := hown0
  have hnm := (name_of_methodNamed Bd.named Bd.method).1
  have X0 : Stand p l e room_1 s m #[(.long q1), (.long q2), (.long q3), (.int p4), (.int p5), (.int p6)] below meth c s₁ [] 0 0 := Stand.of_body Bd
  have e0 : s₁.heap = h0 := by rw [← hh, Bd.state]; rfl
  have N0 := Fr.nil n0
  obtain ⟨S0, hS0⟩ : ∃ z, z = s₁.setTop (entryFrame m #[(.long q1), (.long q2), (.long q3), (.int p4), (.int p5), (.int p6)] maxLocals) := ⟨_, rfl⟩
  have pre0 : own_Go p e below S0 (s₁.setTop (mkF m 0 #[.val (.long q1), .second, .val (.long q2), .second, .val (.long q3), .second, .val (.int p4), .val (.int p5), .val (.int p6), .unset, .unset, .unset, .unset, .unset, .unset, .unset, .unset, .unset, .unset, .unset, .unset, .unset, .unset, .unset, .unset, .unset] [])) := fun t k => by rw [hS0]; exact castTop (ef_0 m q1 q2 q3 p4 p5 p6) k
  have fin : ∀ t, Steps p.tables e below S0 t → Steps p.tables e below (s₁.setTop (entryFrame m #[(.long q1), (.long q2), (.long q3), (.int p4), (.int p5), (.int p6)] maxLocals)) t := fun t k => by rw [hS0] at k; exact k
  have pre1 : own_Go p e below S0 (s₁.setTop (mkF m 57 #[.val (.long q1), .second, .val (.long q2), .second, .val (.long q3), .second, .val (.int p4), .val (.int p5), .val (.int p6), .val (.long ((q2.toUInt64 >>> ((2 : Int32) &&& 0x3f).toInt64.toUInt64).toInt64)), .second, .val (.long ((p6 &&& (1 : Int32)).toInt64)), .second, .val (.long ((q1 + ((2 : Int64) * ((q2.toUInt64 >>> ((2 : Int32) &&& 0x3f).toInt64.toUInt64).toInt64))) + ((p6 &&& (1 : Int32)).toInt64))), .second, .val (.long (q1 + ((q2.toUInt64 >>> ((2 : Int32) &&& 0x3f).toInt64.toUInt64).toInt64))), .second, .val (.long (((p5 &&& (2147483647 : Int32)) % (1000000 : Int32)).toInt64)), .second, .val (.long (((q1 + ((q2.toUInt64 >>> ((2 : Int32) &&& 0x3f).toInt64.toUInt64).toInt64)) + ((p4.toInt64) * (1000000 : Int64))) + (((p5 &&& (2147483647 : Int32)) % (1000000 : Int32)).toInt64))), .second, .unset, .unset, .unset, .unset, .unset] [])) := by
    intro t kt
    refine pre0 t ?_
    refine XS.lloadN X0.here hx rfl (hb hby at_0) rfl ?_
    show Steps p.tables e below (s₁.setTop (mkF m 1 #[.val (.long q1), .second, .val (.long q2), .second, .val (.long q3), .second, .val (.int p4), .val (.int p5), .val (.int p6), .unset, .unset, .unset, .unset, .unset, .unset, .unset, .unset, .unset, .unset, .unset, .unset, .unset, .unset, .unset, .unset, .unset] [(.long q2)])) _
    refine XS.iconst X0.here hx rfl (hb hby at_1) ?_
    show Steps p.tables e below (s₁.setTop (mkF m 2 #[.val (.long q1), .second, .val (.long q2), .second, .val (.long q3), .second, .val (.int p4), .val (.int p5), .val (.int p6), .unset, .unset, .unset, .unset, .unset, .unset, .unset, .unset, .unset, .unset, .unset, .unset, .unset, .unset, .unset, .unset, .unset] [(.int (2 : Int32)), (.long q2)])) _
    refine XS.lushr X0.here hx rfl (hb hby at_2) rfl ?_
    show Steps p.tables e below (s₁.setTop (mkF m 3 #[.val (.long q1), .second, .val (.long q2), .second, .val (.long q3), .second, .val (.int p4), .val (.int p5), .val (.int p6), .unset, .unset, .unset, .unset, .unset, .unset, .unset, .unset, .unset, .unset, .unset, .unset, .unset, .unset, .unset, .unset, .unset] [(.long ((q2.toUInt64 >>> ((2 : Int32) &&& 0x3f).toInt64.toUInt64).toInt64))])) _
    refine XS.lstore X0.here hx rfl (hb hby at_3) rfl (l' := #[.val (.long q1), .second, .val (.long q2), .second, .val (.long q3), .second, .val (.int p4), .val (.int p5), .val (.int p6), .val (.long ((q2.toUInt64 >>> ((2 : Int32) &&& 0x3f).toInt64.toUInt64).toInt64)), .second, .unset, .unset, .unset, .unset, .unset, .unset, .unset, .unset, .unset, .unset, .unset, .unset, .unset, .unset, .unset]) rfl ?_
    show Steps p.tables e below (s₁.setTop (mkF m 5 #[.val (.long q1), .second, .val (.long q2), .second, .val (.long q3), .second, .val (.int p4), .val (.int p5), .val (.int p6), .val (.long ((q2.toUInt64 >>> ((2 : Int32) &&& 0x3f).toInt64.toUInt64).toInt64)), .second, .unset, .unset, .unset, .unset, .unset, .unset, .unset, .unset, .unset, .unset, .unset, .unset, .unset, .unset, .unset] [])) _
    refine XS.iload X0.here hx rfl (hb hby at_5) rfl ?_
    show Steps p.tables e below (s₁.setTop (mkF m 7 #[.val (.long q1), .second, .val (.long q2), .second, .val (.long q3), .second, .val (.int p4), .val (.int p5), .val (.int p6), .val (.long ((q2.toUInt64 >>> ((2 : Int32) &&& 0x3f).toInt64.toUInt64).toInt64)), .second, .unset, .unset, .unset, .unset, .unset, .unset, .unset, .unset, .unset, .unset, .unset, .unset, .unset, .unset, .unset] [(.int p6)])) _
    refine XS.iconst X0.here hx rfl (hb hby at_7) ?_
    show Steps p.tables e below (s₁.setTop (mkF m 8 #[.val (.long q1), .second, .val (.long q2), .second, .val (.long q3), .second, .val (.int p4), .val (.int p5), .val (.int p6), .val (.long ((q2.toUInt64 >>> ((2 : Int32) &&& 0x3f).toInt64.toUInt64).toInt64)), .second, .unset, .unset, .unset, .unset, .unset, .unset, .unset, .unset, .unset, .unset, .unset, .unset, .unset, .unset, .unset] [(.int (1 : Int32)), (.int p6)])) _
    refine XS.iand X0.here hx rfl (hb hby at_8) rfl ?_
    show Steps p.tables e below (s₁.setTop (mkF m 9 #[.val (.long q1), .second, .val (.long q2), .second, .val (.long q3), .second, .val (.int p4), .val (.int p5), .val (.int p6), .val (.long ((q2.toUInt64 >>> ((2 : Int32) &&& 0x3f).toInt64.toUInt64).toInt64)), .second, .unset, .unset, .unset, .unset, .unset, .unset, .unset, .unset, .unset, .unset, .unset, .unset, .unset, .unset, .unset] [(.int (p6 &&& (1 : Int32)))])) _
    refine XS.i2l X0.here hx rfl (hb hby at_9) rfl ?_
    show Steps p.tables e below (s₁.setTop (mkF m 10 #[.val (.long q1), .second, .val (.long q2), .second, .val (.long q3), .second, .val (.int p4), .val (.int p5), .val (.int p6), .val (.long ((q2.toUInt64 >>> ((2 : Int32) &&& 0x3f).toInt64.toUInt64).toInt64)), .second, .unset, .unset, .unset, .unset, .unset, .unset, .unset, .unset, .unset, .unset, .unset, .unset, .unset, .unset, .unset] [(.long ((p6 &&& (1 : Int32)).toInt64))])) _
    refine XS.lstore X0.here hx rfl (hb hby at_10) rfl (l' := #[.val (.long q1), .second, .val (.long q2), .second, .val (.long q3), .second, .val (.int p4), .val (.int p5), .val (.int p6), .val (.long ((q2.toUInt64 >>> ((2 : Int32) &&& 0x3f).toInt64.toUInt64).toInt64)), .second, .val (.long ((p6 &&& (1 : Int32)).toInt64)), .second, .unset, .unset, .unset, .unset, .unset, .unset, .unset, .unset, .unset, .unset, .unset, .unset, .unset]) rfl ?_
    show Steps p.tables e below (s₁.setTop (mkF m 12 #[.val (.long q1), .second, .val (.long q2), .second, .val (.long q3), .second, .val (.int p4), .val (.int p5), .val (.int p6), .val (.long ((q2.toUInt64 >>> ((2 : Int32) &&& 0x3f).toInt64.toUInt64).toInt64)), .second, .val (.long ((p6 &&& (1 : Int32)).toInt64)), .second, .unset, .unset, .unset, .unset, .unset, .unset, .unset, .unset, .unset, .unset, .unset, .unset, .unset] [])) _
    refine XS.lloadN X0.here hx rfl (hb hby at_12) rfl ?_
    show Steps p.tables e below (s₁.setTop (mkF m 13 #[.val (.long q1), .second, .val (.long q2), .second, .val (.long q3), .second, .val (.int p4), .val (.int p5), .val (.int p6), .val (.long ((q2.toUInt64 >>> ((2 : Int32) &&& 0x3f).toInt64.toUInt64).toInt64)), .second, .val (.long ((p6 &&& (1 : Int32)).toInt64)), .second, .unset, .unset, .unset, .unset, .unset, .unset, .unset, .unset, .unset, .unset, .unset, .unset, .unset] [(.long q1)])) _
    refine X0.ldc2Long hx hown (mvT hZ (hw _ (own_w 0 rfl))) (g := (mkF m 13 #[.val (.long q1), .second, .val (.long q2), .second, .val (.long q3), .second, .val (.int p4), .val (.int p5), .val (.int p6), .val (.long ((q2.toUInt64 >>> ((2 : Int32) &&& 0x3f).toInt64.toUInt64).toInt64)), .second, .val (.long ((p6 &&& (1 : Int32)).toInt64)), .second, .unset, .unset, .unset, .unset, .unset, .unset, .unset, .unset, .unset, .unset, .unset, .unset, .unset] [(.long q1)])) rfl (hb hby at_13) _ ?_
    show Steps p.tables e below (s₁.setTop (mkF m 16 #[.val (.long q1), .second, .val (.long q2), .second, .val (.long q3), .second, .val (.int p4), .val (.int p5), .val (.int p6), .val (.long ((q2.toUInt64 >>> ((2 : Int32) &&& 0x3f).toInt64.toUInt64).toInt64)), .second, .val (.long ((p6 &&& (1 : Int32)).toInt64)), .second, .unset, .unset, .unset, .unset, .unset, .unset, .unset, .unset, .unset, .unset, .unset, .unset, .unset] [(.long (2 : Int64)), (.long q1)])) _
    refine XS.lload X0.here hx rfl (hb hby at_16) rfl ?_
    show Steps p.tables e below (s₁.setTop (mkF m 18 #[.val (.long q1), .second, .val (.long q2), .second, .val (.long q3), .second, .val (.int p4), .val (.int p5), .val (.int p6), .val (.long ((q2.toUInt64 >>> ((2 : Int32) &&& 0x3f).toInt64.toUInt64).toInt64)), .second, .val (.long ((p6 &&& (1 : Int32)).toInt64)), .second, .unset, .unset, .unset, .unset, .unset, .unset, .unset, .unset, .unset, .unset, .unset, .unset, .unset] [(.long ((q2.toUInt64 >>> ((2 : Int32) &&& 0x3f).toInt64.toUInt64).toInt64)), (.long (2 : Int64)), (.long q1)])) _
    refine XS.lmul X0.here hx rfl (hb hby at_18) rfl ?_
    show Steps p.tables e below (s₁.setTop (mkF m 19 #[.val (.long q1), .second, .val (.long q2), .second, .val (.long q3), .second, .val (.int p4), .val (.int p5), .val (.int p6), .val (.long ((q2.toUInt64 >>> ((2 : Int32) &&& 0x3f).toInt64.toUInt64).toInt64)), .second, .val (.long ((p6 &&& (1 : Int32)).toInt64)), .second, .unset, .unset, .unset, .unset, .unset, .unset, .unset, .unset, .unset, .unset, .unset, .unset, .unset] [(.long ((2 : Int64) * ((q2.toUInt64 >>> ((2 : Int32) &&& 0x3f).toInt64.toUInt64).toInt64))), (.long q1)])) _
    refine XS.ladd X0.here hx rfl (hb hby at_19) rfl ?_
    show Steps p.tables e below (s₁.setTop (mkF m 20 #[.val (.long q1), .second, .val (.long q2), .second, .val (.long q3), .second, .val (.int p4), .val (.int p5), .val (.int p6), .val (.long ((q2.toUInt64 >>> ((2 : Int32) &&& 0x3f).toInt64.toUInt64).toInt64)), .second, .val (.long ((p6 &&& (1 : Int32)).toInt64)), .second, .unset, .unset, .unset, .unset, .unset, .unset, .unset, .unset, .unset, .unset, .unset, .unset, .unset] [(.long (q1 + ((2 : Int64) * ((q2.toUInt64 >>> ((2 : Int32) &&& 0x3f).toInt64.toUInt64).toInt64))))])) _
    refine XS.lload X0.here hx rfl (hb hby at_20) rfl ?_
    show Steps p.tables e below (s₁.setTop (mkF m 22 #[.val (.long q1), .second, .val (.long q2), .second, .val (.long q3), .second, .val (.int p4), .val (.int p5), .val (.int p6), .val (.long ((q2.toUInt64 >>> ((2 : Int32) &&& 0x3f).toInt64.toUInt64).toInt64)), .second, .val (.long ((p6 &&& (1 : Int32)).toInt64)), .second, .unset, .unset, .unset, .unset, .unset, .unset, .unset, .unset, .unset, .unset, .unset, .unset, .unset] [(.long ((p6 &&& (1 : Int32)).toInt64)), (.long (q1 + ((2 : Int64) * ((q2.toUInt64 >>> ((2 : Int32) &&& 0x3f).toInt64.toUInt64).toInt64))))])) _
    refine XS.ladd X0.here hx rfl (hb hby at_22) rfl ?_
    show Steps p.tables e below (s₁.setTop (mkF m 23 #[.val (.long q1), .second, .val (.long q2), .second, .val (.long q3), .second, .val (.int p4), .val (.int p5), .val (.int p6), .val (.long ((q2.toUInt64 >>> ((2 : Int32) &&& 0x3f).toInt64.toUInt64).toInt64)), .second, .val (.long ((p6 &&& (1 : Int32)).toInt64)), .second, .unset, .unset, .unset, .unset, .unset, .unset, .unset, .unset, .unset, .unset, .unset, .unset, .unset] [(.long ((q1 + ((2 : Int64) * ((q2.toUInt64 >>> ((2 : Int32) &&& 0x3f).toInt64.toUInt64).toInt64))) + ((p6 &&& (1 : Int32)).toInt64)))])) _
    refine XS.lstore X0.here hx rfl (hb hby at_23) rfl (l' := #[.val (.long q1), .second, .val (.long q2), .second, .val (.long q3), .second, .val (.int p4), .val (.int p5), .val (.int p6), .val (.long ((q2.toUInt64 >>> ((2 : Int32) &&& 0x3f).toInt64.toUInt64).toInt64)), .second, .val (.long ((p6 &&& (1 : Int32)).toInt64)), .second, .val (.long ((q1 + ((2 : Int64) * ((q2.toUInt64 >>> ((2 : Int32) &&& 0x3f).toInt64.toUInt64).toInt64))) + ((p6 &&& (1 : Int32)).toInt64))), .second, .unset, .unset, .unset, .unset, .unset, .unset, .unset, .unset, .unset, .unset, .unset]) rfl ?_
    show Steps p.tables e below (s₁.setTop (mkF m 25 #[.val (.long q1), .second, .val (.long q2), .second, .val (.long q3), .second, .val (.int p4), .val (.int p5), .val (.int p6), .val (.long ((q2.toUInt64 >>> ((2 : Int32) &&& 0x3f).toInt64.toUInt64).toInt64)), .second, .val (.long ((p6 &&& (1 : Int32)).toInt64)), .second, .val (.long ((q1 + ((2 : Int64) * ((q2.toUInt64 >>> ((2 : Int32) &&& 0x3f).toInt64.toUInt64).toInt64))) + ((p6 &&& (1 : Int32)).toInt64))), .second, .unset, .unset, .unset, .unset, .unset, .unset, .unset, .unset, .unset, .unset, .unset] [])) _
    refine XS.lloadN X0.here hx rfl (hb hby at_25) rfl ?_
    show Steps p.tables e below (s₁.setTop (mkF m 26 #[.val (.long q1), .second, .val (.long q2), .second, .val (.long q3), .second, .val (.int p4), .val (.int p5), .val (.int p6), .val (.long ((q2.toUInt64 >>> ((2 : Int32) &&& 0x3f).toInt64.toUInt64).toInt64)), .second, .val (.long ((p6 &&& (1 : Int32)).toInt64)), .second, .val (.long ((q1 + ((2 : Int64) * ((q2.toUInt64 >>> ((2 : Int32) &&& 0x3f).toInt64.toUInt64).toInt64))) + ((p6 &&& (1 : Int32)).toInt64))), .second, .unset, .unset, .unset, .unset, .unset, .unset, .unset, .unset, .unset, .unset, .unset] [(.long q1)])) _
    refine XS.lload X0.here hx rfl (hb hby at_26) rfl ?_
    show Steps p.tables e below (s₁.setTop (mkF m 28 #[.val (.long q1), .second, .val (.long q2), .second, .val (.long q3), .second, .val (.int p4), .val (.int p5), .val (.int p6), .val (.long ((q2.toUInt64 >>> ((2 : Int32) &&& 0x3f).toInt64.toUInt64).toInt64)), .second, .val (.long ((p6 &&& (1 : Int32)).toInt64)), .second, .val (.long ((q1 + ((2 : Int64) * ((q2.toUInt64 >>> ((2 : Int32) &&& 0x3f).toInt64.toUInt64).toInt64))) + ((p6 &&& (1 : Int32)).toInt64))), .second, .unset, .unset, .unset, .unset, .unset, .unset, .unset, .unset, .unset, .unset, .unset] [(.long ((q2.toUInt64 >>> ((2 : Int32) &&& 0x3f).toInt64.toUInt64).toInt64)), (.long q1)])) _
    refine XS.ladd X0.here hx rfl (hb hby at_28) rfl ?_
    show Steps p.tables e below (s₁.setTop (mkF m 29 #[.val (.long q1), .second, .val (.long q2), .second, .val (.long q3), .second, .val (.int p4), .val (.int p5), .val (.int p6), .val (.long ((q2.toUInt64 >>> ((2 : Int32) &&& 0x3f).toInt64.toUInt64).toInt64)), .second, .val (.long ((p6 &&& (1 : Int32)).toInt64)), .second, .val (.long ((q1 + ((2 : Int64) * ((q2.toUInt64 >>> ((2 : Int32) &&& 0x3f).toInt64.toUInt64).toInt64))) + ((p6 &&& (1 : Int32)).toInt64))), .second, .unset, .unset, .unset, .unset, .unset, .unset, .unset, .unset, .unset, .unset, .unset] [(.long (q1 + ((q2.toUInt64 >>> ((2 : Int32) &&& 0x3f).toInt64.toUInt64).toInt64)))])) _
    refine XS.lstore X0.here hx rfl (hb hby at_29) rfl (l' := #[.val (.long q1), .second, .val (.long q2), .second, .val (.long q3), .second, .val (.int p4), .val (.int p5), .val (.int p6), .val (.long ((q2.toUInt64 >>> ((2 : Int32) &&& 0x3f).toInt64.toUInt64).toInt64)), .second, .val (.long ((p6 &&& (1 : Int32)).toInt64)), .second, .val (.long ((q1 + ((2 : Int64) * ((q2.toUInt64 >>> ((2 : Int32) &&& 0x3f).toInt64.toUInt64).toInt64))) + ((p6 &&& (1 : Int32)).toInt64))), .second, .val (.long (q1 + ((q2.toUInt64 >>> ((2 : Int32) &&& 0x3f).toInt64.toUInt64).toInt64))), .second, .unset, .unset, .unset, .unset, .unset, .unset, .unset, .unset, .unset]) rfl ?_
    show Steps p.tables e below (s₁.setTop (mkF m 31 #[.val (.long q1), .second, .val (.long q2), .second, .val (.long q3), .second, .val (.int p4), .val (.int p5), .val (.int p6), .val (.long ((q2.toUInt64 >>> ((2 : Int32) &&& 0x3f).toInt64.toUInt64).toInt64)), .second, .val (.long ((p6 &&& (1 : Int32)).toInt64)), .second, .val (.long ((q1 + ((2 : Int64) * ((q2.toUInt64 >>> ((2 : Int32) &&& 0x3f).toInt64.toUInt64).toInt64))) + ((p6 &&& (1 : Int32)).toInt64))), .second, .val (.long (q1 + ((q2.toUInt64 >>> ((2 : Int32) &&& 0x3f).toInt64.toUInt64).toInt64))), .second, .unset, .unset, .unset, .unset, .unset, .unset, .unset, .unset, .unset] [])) _
    refine XS.iload X0.here hx rfl (hb hby at_31) rfl ?_
    show Steps p.tables e below (s₁.setTop (mkF m 33 #[.val (.long q1), .second, .val (.long q2), .second, .val (.long q3), .second, .val (.int p4), .val (.int p5), .val (.int p6), .val (.long ((q2.toUInt64 >>> ((2 : Int32) &&& 0x3f).toInt64.toUInt64).toInt64)), .second, .val (.long ((p6 &&& (1 : Int32)).toInt64)), .second, .val (.long ((q1 + ((2 : Int64) * ((q2.toUInt64 >>> ((2 : Int32) &&& 0x3f).toInt64.toUInt64).toInt64))) + ((p6 &&& (1 : Int32)).toInt64))), .second, .val (.long (q1 + ((q2.toUInt64 >>> ((2 : Int32) &&& 0x3f).toInt64.toUInt64).toInt64))), .second, .unset, .unset, .unset, .unset, .unset, .unset, .unset, .unset, .unset] [(.int p5)])) _
    refine X0.ldcInt hx hown (mvT hZ (hw _ (own_w 1 rfl))) (g := (mkF m 33 #[.val (.long q1), .second, .val (.long q2), .second, .val (.long q3), .second, .val (.int p4), .val (.int p5), .val (.int p6), .val (.long ((q2.toUInt64 >>> ((2 : Int32) &&& 0x3f).toInt64.toUInt64).toInt64)), .second, .val (.long ((p6 &&& (1 : Int32)).toInt64)), .second, .val (.long ((q1 + ((2 : Int64) * ((q2.toUInt64 >>> ((2 : Int32) &&& 0x3f).toInt64.toUInt64).toInt64))) + ((p6 &&& (1 : Int32)).toInt64))), .second, .val (.long (q1 + ((q2.toUInt64 >>> ((2 : Int32) &&& 0x3f).toInt64.toUInt64).toInt64))), .second, .unset, .unset, .unset, .unset, .unset, .unset, .unset, .unset, .unset] [(.int p5)])) rfl (hb hby at_33) _ ?_
    show Steps p.tables e below (s₁.setTop (mkF m 35 #[.val (.long q1), .second, .val (.long q2), .second, .val (.long q3), .second, .val (.int p4), .val (.int p5), .val (.int p6), .val (.long ((q2.toUInt64 >>> ((2 : Int32) &&& 0x3f).toInt64.toUInt64).toInt64)), .second, .val (.long ((p6 &&& (1 : Int32)).toInt64)), .second, .val (.long ((q1 + ((2 : Int64) * ((q2.toUInt64 >>> ((2 : Int32) &&& 0x3f).toInt64.toUInt64).toInt64))) + ((p6 &&& (1 : Int32)).toInt64))), .second, .val (.long (q1 + ((q2.toUInt64 >>> ((2 : Int32) &&& 0x3f).toInt64.toUInt64).toInt64))), .second, .unset, .unset, .unset, .unset, .unset, .unset, .unset, .unset, .unset] [(.int (2147483647 : Int32)), (.int p5)])) _
    refine XS.iand X0.here hx rfl (hb hby at_35) rfl ?_
    show Steps p.tables e below (s₁.setTop (mkF m 36 #[.val (.long q1), .second, .val (.long q2), .second, .val (.long q3), .second, .val (.int p4), .val (.int p5), .val (.int p6), .val (.long ((q2.toUInt64 >>> ((2 : Int32) &&& 0x3f).toInt64.toUInt64).toInt64)), .second, .val (.long ((p6 &&& (1 : Int32)).toInt64)), .second, .val (.long ((q1 + ((2 : Int64) * ((q2.toUInt64 >>> ((2 : Int32) &&& 0x3f).toInt64.toUInt64).toInt64))) + ((p6 &&& (1 : Int32)).toInt64))), .second, .val (.long (q1 + ((q2.toUInt64 >>> ((2 : Int32) &&& 0x3f).toInt64.toUInt64).toInt64))), .second, .unset, .unset, .unset, .unset, .unset, .unset, .unset, .unset, .unset] [(.int (p5 &&& (2147483647 : Int32)))])) _
    refine X0.ldcInt hx hown (mvT hZ (hw _ (own_w 2 rfl))) (g := (mkF m 36 #[.val (.long q1), .second, .val (.long q2), .second, .val (.long q3), .second, .val (.int p4), .val (.int p5), .val (.int p6), .val (.long ((q2.toUInt64 >>> ((2 : Int32) &&& 0x3f).toInt64.toUInt64).toInt64)), .second, .val (.long ((p6 &&& (1 : Int32)).toInt64)), .second, .val (.long ((q1 + ((2 : Int64) * ((q2.toUInt64 >>> ((2 : Int32) &&& 0x3f).toInt64.toUInt64).toInt64))) + ((p6 &&& (1 : Int32)).toInt64))), .second, .val (.long (q1 + ((q2.toUInt64 >>> ((2 : Int32) &&& 0x3f).toInt64.toUInt64).toInt64))), .second, .unset, .unset, .unset, .unset, .unset, .unset, .unset, .unset, .unset] [(.int (p5 &&& (2147483647 : Int32)))])) rfl (hb hby at_36) _ ?_
    show Steps p.tables e below (s₁.setTop (mkF m 38 #[.val (.long q1), .second, .val (.long q2), .second, .val (.long q3), .second, .val (.int p4), .val (.int p5), .val (.int p6), .val (.long ((q2.toUInt64 >>> ((2 : Int32) &&& 0x3f).toInt64.toUInt64).toInt64)), .second, .val (.long ((p6 &&& (1 : Int32)).toInt64)), .second, .val (.long ((q1 + ((2 : Int64) * ((q2.toUInt64 >>> ((2 : Int32) &&& 0x3f).toInt64.toUInt64).toInt64))) + ((p6 &&& (1 : Int32)).toInt64))), .second, .val (.long (q1 + ((q2.toUInt64 >>> ((2 : Int32) &&& 0x3f).toInt64.toUInt64).toInt64))), .second, .unset, .unset, .unset, .unset, .unset, .unset, .unset, .unset, .unset] [(.int (1000000 : Int32)), (.int (p5 &&& (2147483647 : Int32)))])) _
    refine iremM X0 hx rfl (hb hby at_38) rfl (by decide) ?_
    show Steps p.tables e below (s₁.setTop (mkF m 39 #[.val (.long q1), .second, .val (.long q2), .second, .val (.long q3), .second, .val (.int p4), .val (.int p5), .val (.int p6), .val (.long ((q2.toUInt64 >>> ((2 : Int32) &&& 0x3f).toInt64.toUInt64).toInt64)), .second, .val (.long ((p6 &&& (1 : Int32)).toInt64)), .second, .val (.long ((q1 + ((2 : Int64) * ((q2.toUInt64 >>> ((2 : Int32) &&& 0x3f).toInt64.toUInt64).toInt64))) + ((p6 &&& (1 : Int32)).toInt64))), .second, .val (.long (q1 + ((q2.toUInt64 >>> ((2 : Int32) &&& 0x3f).toInt64.toUInt64).toInt64))), .second, .unset, .unset, .unset, .unset, .unset, .unset, .unset, .unset, .unset] [(.int ((p5 &&& (2147483647 : Int32)) % (1000000 : Int32)))])) _
    refine XS.i2l X0.here hx rfl (hb hby at_39) rfl ?_
    show Steps p.tables e below (s₁.setTop (mkF m 40 #[.val (.long q1), .second, .val (.long q2), .second, .val (.long q3), .second, .val (.int p4), .val (.int p5), .val (.int p6), .val (.long ((q2.toUInt64 >>> ((2 : Int32) &&& 0x3f).toInt64.toUInt64).toInt64)), .second, .val (.long ((p6 &&& (1 : Int32)).toInt64)), .second, .val (.long ((q1 + ((2 : Int64) * ((q2.toUInt64 >>> ((2 : Int32) &&& 0x3f).toInt64.toUInt64).toInt64))) + ((p6 &&& (1 : Int32)).toInt64))), .second, .val (.long (q1 + ((q2.toUInt64 >>> ((2 : Int32) &&& 0x3f).toInt64.toUInt64).toInt64))), .second, .unset, .unset, .unset, .unset, .unset, .unset, .unset, .unset, .unset] [(.long (((p5 &&& (2147483647 : Int32)) % (1000000 : Int32)).toInt64))])) _
    refine XS.lstore X0.here hx rfl (hb hby at_40) rfl (l' := #[.val (.long q1), .second, .val (.long q2), .second, .val (.long q3), .second, .val (.int p4), .val (.int p5), .val (.int p6), .val (.long ((q2.toUInt64 >>> ((2 : Int32) &&& 0x3f).toInt64.toUInt64).toInt64)), .second, .val (.long ((p6 &&& (1 : Int32)).toInt64)), .second, .val (.long ((q1 + ((2 : Int64) * ((q2.toUInt64 >>> ((2 : Int32) &&& 0x3f).toInt64.toUInt64).toInt64))) + ((p6 &&& (1 : Int32)).toInt64))), .second, .val (.long (q1 + ((q2.toUInt64 >>> ((2 : Int32) &&& 0x3f).toInt64.toUInt64).toInt64))), .second, .val (.long (((p5 &&& (2147483647 : Int32)) % (1000000 : Int32)).toInt64)), .second, .unset, .unset, .unset, .unset, .unset, .unset, .unset]) rfl ?_
    show Steps p.tables e below (s₁.setTop (mkF m 42 #[.val (.long q1), .second, .val (.long q2), .second, .val (.long q3), .second, .val (.int p4), .val (.int p5), .val (.int p6), .val (.long ((q2.toUInt64 >>> ((2 : Int32) &&& 0x3f).toInt64.toUInt64).toInt64)), .second, .val (.long ((p6 &&& (1 : Int32)).toInt64)), .second, .val (.long ((q1 + ((2 : Int64) * ((q2.toUInt64 >>> ((2 : Int32) &&& 0x3f).toInt64.toUInt64).toInt64))) + ((p6 &&& (1 : Int32)).toInt64))), .second, .val (.long (q1 + ((q2.toUInt64 >>> ((2 : Int32) &&& 0x3f).toInt64.toUInt64).toInt64))), .second, .val (.long (((p5 &&& (2147483647 : Int32)) % (1000000 : Int32)).toInt64)), .second, .unset, .unset, .unset, .unset, .unset, .unset, .unset] [])) _
    refine XS.lload X0.here hx rfl (hb hby at_42) rfl ?_
    show Steps p.tables e below (s₁.setTop (mkF m 44 #[.val (.long q1), .second, .val (.long q2), .second, .val (.long q3), .second, .val (.int p4), .val (.int p5), .val (.int p6), .val (.long ((q2.toUInt64 >>> ((2 : Int32) &&& 0x3f).toInt64.toUInt64).toInt64)), .second, .val (.long ((p6 &&& (1 : Int32)).toInt64)), .second, .val (.long ((q1 + ((2 : Int64) * ((q2.toUInt64 >>> ((2 : Int32) &&& 0x3f).toInt64.toUInt64).toInt64))) + ((p6 &&& (1 : Int32)).toInt64))), .second, .val (.long (q1 + ((q2.toUInt64 >>> ((2 : Int32) &&& 0x3f).toInt64.toUInt64).toInt64))), .second, .val (.long (((p5 &&& (2147483647 : Int32)) % (1000000 : Int32)).toInt64)), .second, .unset, .unset, .unset, .unset, .unset, .unset, .unset] [(.long (q1 + ((q2.toUInt64 >>> ((2 : Int32) &&& 0x3f).toInt64.toUInt64).toInt64)))])) _
    refine XS.iload X0.here hx rfl (hb hby at_44) rfl ?_
    show Steps p.tables e below (s₁.setTop (mkF m 46 #[.val (.long q1), .second, .val (.long q2), .second, .val (.long q3), .second, .val (.int p4), .val (.int p5), .val (.int p6), .val (.long ((q2.toUInt64 >>> ((2 : Int32) &&& 0x3f).toInt64.toUInt64).toInt64)), .second, .val (.long ((p6 &&& (1 : Int32)).toInt64)), .second, .val (.long ((q1 + ((2 : Int64) * ((q2.toUInt64 >>> ((2 : Int32) &&& 0x3f).toInt64.toUInt64).toInt64))) + ((p6 &&& (1 : Int32)).toInt64))), .second, .val (.long (q1 + ((q2.toUInt64 >>> ((2 : Int32) &&& 0x3f).toInt64.toUInt64).toInt64))), .second, .val (.long (((p5 &&& (2147483647 : Int32)) % (1000000 : Int32)).toInt64)), .second, .unset, .unset, .unset, .unset, .unset, .unset, .unset] [(.int p4), (.long (q1 + ((q2.toUInt64 >>> ((2 : Int32) &&& 0x3f).toInt64.toUInt64).toInt64)))])) _
    refine XS.i2l X0.here hx rfl (hb hby at_46) rfl ?_
    show Steps p.tables e below (s₁.setTop (mkF m 47 #[.val (.long q1), .second, .val (.long q2), .second, .val (.long q3), .second, .val (.int p4), .val (.int p5), .val (.int p6), .val (.long ((q2.toUInt64 >>> ((2 : Int32) &&& 0x3f).toInt64.toUInt64).toInt64)), .second, .val (.long ((p6 &&& (1 : Int32)).toInt64)), .second, .val (.long ((q1 + ((2 : Int64) * ((q2.toUInt64 >>> ((2 : Int32) &&& 0x3f).toInt64.toUInt64).toInt64))) + ((p6 &&& (1 : Int32)).toInt64))), .second, .val (.long (q1 + ((q2.toUInt64 >>> ((2 : Int32) &&& 0x3f).toInt64.toUInt64).toInt64))), .second, .val (.long (((p5 &&& (2147483647 : Int32)) % (1000000 : Int32)).toInt64)), .second, .unset, .unset, .unset, .unset, .unset, .unset, .unset] [(.long (p4.toInt64)), (.long (q1 + ((q2.toUInt64 >>> ((2 : Int32) &&& 0x3f).toInt64.toUInt64).toInt64)))])) _
    refine X0.ldc2Long hx hown (mvT hZ (hw _ (own_w 3 rfl))) (g := (mkF m 47 #[.val (.long q1), .second, .val (.long q2), .second, .val (.long q3), .second, .val (.int p4), .val (.int p5), .val (.int p6), .val (.long ((q2.toUInt64 >>> ((2 : Int32) &&& 0x3f).toInt64.toUInt64).toInt64)), .second, .val (.long ((p6 &&& (1 : Int32)).toInt64)), .second, .val (.long ((q1 + ((2 : Int64) * ((q2.toUInt64 >>> ((2 : Int32) &&& 0x3f).toInt64.toUInt64).toInt64))) + ((p6 &&& (1 : Int32)).toInt64))), .second, .val (.long (q1 + ((q2.toUInt64 >>> ((2 : Int32) &&& 0x3f).toInt64.toUInt64).toInt64))), .second, .val (.long (((p5 &&& (2147483647 : Int32)) % (1000000 : Int32)).toInt64)), .second, .unset, .unset, .unset, .unset, .unset, .unset, .unset] [(.long (p4.toInt64)), (.long (q1 + ((q2.toUInt64 >>> ((2 : Int32) &&& 0x3f).toInt64.toUInt64).toInt64)))])) rfl (hb hby at_47) _ ?_
    show Steps p.tables e below (s₁.setTop (mkF m 50 #[.val (.long q1), .second, .val (.long q2), .second, .val (.long q3), .second, .val (.int p4), .val (.int p5), .val (.int p6), .val (.long ((q2.toUInt64 >>> ((2 : Int32) &&& 0x3f).toInt64.toUInt64).toInt64)), .second, .val (.long ((p6 &&& (1 : Int32)).toInt64)), .second, .val (.long ((q1 + ((2 : Int64) * ((q2.toUInt64 >>> ((2 : Int32) &&& 0x3f).toInt64.toUInt64).toInt64))) + ((p6 &&& (1 : Int32)).toInt64))), .second, .val (.long (q1 + ((q2.toUInt64 >>> ((2 : Int32) &&& 0x3f).toInt64.toUInt64).toInt64))), .second, .val (.long (((p5 &&& (2147483647 : Int32)) % (1000000 : Int32)).toInt64)), .second, .unset, .unset, .unset, .unset, .unset, .unset, .unset] [(.long (1000000 : Int64)), (.long (p4.toInt64)), (.long (q1 + ((q2.toUInt64 >>> ((2 : Int32) &&& 0x3f).toInt64.toUInt64).toInt64)))])) _
    refine XS.lmul X0.here hx rfl (hb hby at_50) rfl ?_
    show Steps p.tables e below (s₁.setTop (mkF m 51 #[.val (.long q1), .second, .val (.long q2), .second, .val (.long q3), .second, .val (.int p4), .val (.int p5), .val (.int p6), .val (.long ((q2.toUInt64 >>> ((2 : Int32) &&& 0x3f).toInt64.toUInt64).toInt64)), .second, .val (.long ((p6 &&& (1 : Int32)).toInt64)), .second, .val (.long ((q1 + ((2 : Int64) * ((q2.toUInt64 >>> ((2 : Int32) &&& 0x3f).toInt64.toUInt64).toInt64))) + ((p6 &&& (1 : Int32)).toInt64))), .second, .val (.long (q1 + ((q2.toUInt64 >>> ((2 : Int32) &&& 0x3f).toInt64.toUInt64).toInt64))), .second, .val (.long (((p5 &&& (2147483647 : Int32)) % (1000000 : Int32)).toInt64)), .second, .unset, .unset, .unset, .unset, .unset, .unset, .unset] [(.long ((p4.toInt64) * (1000000 : Int64))), (.long (q1 + ((q2.toUInt64 >>> ((2 : Int32) &&& 0x3f).toInt64.toUInt64).toInt64)))])) _
    refine XS.ladd X0.here hx rfl (hb hby at_51) rfl ?_
    show Steps p.tables e below (s₁.setTop (mkF m 52 #[.val (.long q1), .second, .val (.long q2), .second, .val (.long q3), .second, .val (.int p4), .val (.int p5), .val (.int p6), .val (.long ((q2.toUInt64 >>> ((2 : Int32) &&& 0x3f).toInt64.toUInt64).toInt64)), .second, .val (.long ((p6 &&& (1 : Int32)).toInt64)), .second, .val (.long ((q1 + ((2 : Int64) * ((q2.toUInt64 >>> ((2 : Int32) &&& 0x3f).toInt64.toUInt64).toInt64))) + ((p6 &&& (1 : Int32)).toInt64))), .second, .val (.long (q1 + ((q2.toUInt64 >>> ((2 : Int32) &&& 0x3f).toInt64.toUInt64).toInt64))), .second, .val (.long (((p5 &&& (2147483647 : Int32)) % (1000000 : Int32)).toInt64)), .second, .unset, .unset, .unset, .unset, .unset, .unset, .unset] [(.long ((q1 + ((q2.toUInt64 >>> ((2 : Int32) &&& 0x3f).toInt64.toUInt64).toInt64)) + ((p4.toInt64) * (1000000 : Int64))))])) _
    refine XS.lload X0.here hx rfl (hb hby at_52) rfl ?_
    show Steps p.tables e below (s₁.setTop (mkF m 54 #[.val (.long q1), .second, .val (.long q2), .second, .val (.long q3), .second, .val (.int p4), .val (.int p5), .val (.int p6), .val (.long ((q2.toUInt64 >>> ((2 : Int32) &&& 0x3f).toInt64.toUInt64).toInt64)), .second, .val (.long ((p6 &&& (1 : Int32)).toInt64)), .second, .val (.long ((q1 + ((2 : Int64) * ((q2.toUInt64 >>> ((2 : Int32) &&& 0x3f).toInt64.toUInt64).toInt64))) + ((p6 &&& (1 : Int32)).toInt64))), .second, .val (.long (q1 + ((q2.toUInt64 >>> ((2 : Int32) &&& 0x3f).toInt64.toUInt64).toInt64))), .second, .val (.long (((p5 &&& (2147483647 : Int32)) % (1000000 : Int32)).toInt64)), .second, .unset, .unset, .unset, .unset, .unset, .unset, .unset] [(.long (((p5 &&& (2147483647 : Int32)) % (1000000 : Int32)).toInt64)), (.long ((q1 + ((q2.toUInt64 >>> ((2 : Int32) &&& 0x3f).toInt64.toUInt64).toInt64)) + ((p4.toInt64) * (1000000 : Int64))))])) _
    refine XS.ladd X0.here hx rfl (hb hby at_54) rfl ?_
    show Steps p.tables e below (s₁.setTop (mkF m 55 #[.val (.long q1), .second, .val (.long q2), .second, .val (.long q3), .second, .val (.int p4), .val (.int p5), .val (.int p6), .val (.long ((q2.toUInt64 >>> ((2 : Int32) &&& 0x3f).toInt64.toUInt64).toInt64)), .second, .val (.long ((p6 &&& (1 : Int32)).toInt64)), .second, .val (.long ((q1 + ((2 : Int64) * ((q2.toUInt64 >>> ((2 : Int32) &&& 0x3f).toInt64.toUInt64).toInt64))) + ((p6 &&& (1 : Int32)).toInt64))), .second, .val (.long (q1 + ((q2.toUInt64 >>> ((2 : Int32) &&& 0x3f).toInt64.toUInt64).toInt64))), .second, .val (.long (((p5 &&& (2147483647 : Int32)) % (1000000 : Int32)).toInt64)), .second, .unset, .unset, .unset, .unset, .unset, .unset, .unset] [(.long (((q1 + ((q2.toUInt64 >>> ((2 : Int32) &&& 0x3f).toInt64.toUInt64).toInt64)) + ((p4.toInt64) * (1000000 : Int64))) + (((p5 &&& (2147483647 : Int32)) % (1000000 : Int32)).toInt64)))])) _
    refine XS.lstore X0.here hx rfl (hb hby at_55) rfl (l' := #[.val (.long q1), .second, .val (.long q2), .second, .val (.long q3), .second, .val (.int p4), .val (.int p5), .val (.int p6), .val (.long ((q2.toUInt64 >>> ((2 : Int32) &&& 0x3f).toInt64.toUInt64).toInt64)), .second, .val (.long ((p6 &&& (1 : Int32)).toInt64)), .second, .val (.long ((q1 + ((2 : Int64) * ((q2.toUInt64 >>> ((2 : Int32) &&& 0x3f).toInt64.toUInt64).toInt64))) + ((p6 &&& (1 : Int32)).toInt64))), .second, .val (.long (q1 + ((q2.toUInt64 >>> ((2 : Int32) &&& 0x3f).toInt64.toUInt64).toInt64))), .second, .val (.long (((p5 &&& (2147483647 : Int32)) % (1000000 : Int32)).toInt64)), .second, .val (.long (((q1 + ((q2.toUInt64 >>> ((2 : Int32) &&& 0x3f).toInt64.toUInt64).toInt64)) + ((p4.toInt64) * (1000000 : Int64))) + (((p5 &&& (2147483647 : Int32)) % (1000000 : Int32)).toInt64))), .second, .unset, .unset, .unset, .unset, .unset]) rfl ?_
    show Steps p.tables e below (s₁.setTop (mkF m 57 #[.val (.long q1), .second, .val (.long q2), .second, .val (.long q3), .second, .val (.int p4), .val (.int p5), .val (.int p6), .val (.long ((q2.toUInt64 >>> ((2 : Int32) &&& 0x3f).toInt64.toUInt64).toInt64)), .second, .val (.long ((p6 &&& (1 : Int32)).toInt64)), .second, .val (.long ((q1 + ((2 : Int64) * ((q2.toUInt64 >>> ((2 : Int32) &&& 0x3f).toInt64.toUInt64).toInt64))) + ((p6 &&& (1 : Int32)).toInt64))), .second, .val (.long (q1 + ((q2.toUInt64 >>> ((2 : Int32) &&& 0x3f).toInt64.toUInt64).toInt64))), .second, .val (.long (((p5 &&& (2147483647 : Int32)) % (1000000 : Int32)).toInt64)), .second, .val (.long (((q1 + ((q2.toUInt64 >>> ((2 : Int32) &&& 0x3f).toInt64.toUInt64).toInt64)) + ((p4.toInt64) * (1000000 : Int64))) + (((p5 &&& (2147483647 : Int32)) % (1000000 : Int32)).toInt64))), .second, .unset, .unset, .unset, .unset, .unset] [])) _
    exact kt
  obtain ⟨T2, h2, X2, e2, E2, A2, D2, -, st2⟩ := newO X0 hx hZ hown (hw _ (own_w 4 rfl)) (hw _ (own_w 5 rfl)) (hw _ (own_w 6 rfl)) e0 (g := (mkF m 57 #[.val (.long q1), .second, .val (.long q2), .second, .val (.long q3), .second, .val (.int p4), .val (.int p5), .val (.int p6), .val (.long ((q2.toUInt64 >>> ((2 : Int32) &&& 0x3f).toInt64.toUInt64).toInt64)), .second, .val (.long ((p6 &&& (1 : Int32)).toInt64)), .second, .val (.long ((q1 + ((2 : Int64) * ((q2.toUInt64 >>> ((2 : Int32) &&& 0x3f).toInt64.toUInt64).toInt64))) + ((p6 &&& (1 : Int32)).toInt64))), .second, .val (.long (q1 + ((q2.toUInt64 >>> ((2 : Int32) &&& 0x3f).toInt64.toUInt64).toInt64))), .second, .val (.long (((p5 &&& (2147483647 : Int32)) % (1000000 : Int32)).toInt64)), .second, .val (.long (((q1 + ((q2.toUInt64 >>> ((2 : Int32) &&& 0x3f).toInt64.toUInt64).toInt64)) + ((p4.toInt64) * (1000000 : Int64))) + (((p5 &&& (2147483647 : Int32)) % (1000000 : Int32)).toInt64))), .second, .unset, .unset, .unset, .unset, .unset] [])) rfl (hb hby at_57) (by decide) (by decide)
  obtain ⟨b2, g2⟩ : ∃ z, z = h0.size := ⟨_, rfl⟩
  rw [← g2] at A2 D2 st2
  have ge3 : n0 ≤ b2 := Nat.le_trans Z0 (Nat.le_of_eq g2.symm)
  have zs4 : n0 ≤ h2.size := Nat.le_trans Z0 E2.1
  have fd5 : Fld Z h2 b2 "com/example/backplane/backplane/ClusterClock" "sample" "Lcom/example/backplane/backplane/ClusterClock$Sample;" .null := D2 (Or.inl (hw _ (own_w 38 rfl))) (ty := (.object "com/example/backplane/backplane/ClusterClock$Sample")) (by decide)
  have pre6 : own_Go p e below S0 (T2.setTop (mkF m 61 #[.val (.long q1), .second, .val (.long q2), .second, .val (.long q3), .second, .val (.int p4), .val (.int p5), .val (.int p6), .val (.long ((q2.toUInt64 >>> ((2 : Int32) &&& 0x3f).toInt64.toUInt64).toInt64)), .second, .val (.long ((p6 &&& (1 : Int32)).toInt64)), .second, .val (.long ((q1 + ((2 : Int64) * ((q2.toUInt64 >>> ((2 : Int32) &&& 0x3f).toInt64.toUInt64).toInt64))) + ((p6 &&& (1 : Int32)).toInt64))), .second, .val (.long (q1 + ((q2.toUInt64 >>> ((2 : Int32) &&& 0x3f).toInt64.toUInt64).toInt64))), .second, .val (.long (((p5 &&& (2147483647 : Int32)) % (1000000 : Int32)).toInt64)), .second, .val (.long (((q1 + ((q2.toUInt64 >>> ((2 : Int32) &&& 0x3f).toInt64.toUInt64).toInt64)) + ((p4.toInt64) * (1000000 : Int64))) + (((p5 &&& (2147483647 : Int32)) % (1000000 : Int32)).toInt64))), .second, .unset, .unset, .unset, .unset, .unset] [(.ref b2), (.ref b2)])) := by
    intro t kt
    refine pre1 t ?_
    refine st2 _ ?_
    show Steps p.tables e below (T2.setTop (mkF m 60 #[.val (.long q1), .second, .val (.long q2), .second, .val (.long q3), .second, .val (.int p4), .val (.int p5), .val (.int p6), .val (.long ((q2.toUInt64 >>> ((2 : Int32) &&& 0x3f).toInt64.toUInt64).toInt64)), .second, .val (.long ((p6 &&& (1 : Int32)).toInt64)), .second, .val (.long ((q1 + ((2 : Int64) * ((q2.toUInt64 >>> ((2 : Int32) &&& 0x3f).toInt64.toUInt64).toInt64))) + ((p6 &&& (1 : Int32)).toInt64))), .second, .val (.long (q1 + ((q2.toUInt64 >>> ((2 : Int32) &&& 0x3f).toInt64.toUInt64).toInt64))), .second, .val (.long (((p5 &&& (2147483647 : Int32)) % (1000000 : Int32)).toInt64)), .second, .val (.long (((q1 + ((q2.toUInt64 >>> ((2 : Int32) &&& 0x3f).toInt64.toUInt64).toInt64)) + ((p4.toInt64) * (1000000 : Int64))) + (((p5 &&& (2147483647 : Int32)) % (1000000 : Int32)).toInt64))), .second, .unset, .unset, .unset, .unset, .unset] [(.ref b2)])) _
    refine XS.dup X2.here hx rfl (hb hby at_60) rfl rfl ?_
    show Steps p.tables e below (T2.setTop (mkF m 61 #[.val (.long q1), .second, .val (.long q2), .second, .val (.long q3), .second, .val (.int p4), .val (.int p5), .val (.int p6), .val (.long ((q2.toUInt64 >>> ((2 : Int32) &&& 0x3f).toInt64.toUInt64).toInt64)), .second, .val (.long ((p6 &&& (1 : Int32)).toInt64)), .second, .val (.long ((q1 + ((2 : Int64) * ((q2.toUInt64 >>> ((2 : Int32) &&& 0x3f).toInt64.toUInt64).toInt64))) + ((p6 &&& (1 : Int32)).toInt64))), .second, .val (.long (q1 + ((q2.toUInt64 >>> ((2 : Int32) &&& 0x3f).toInt64.toUInt64).toInt64))), .second, .val (.long (((p5 &&& (2147483647 : Int32)) % (1000000 : Int32)).toInt64)), .second, .val (.long (((q1 + ((q2.toUInt64 >>> ((2 : Int32) &&& 0x3f).toInt64.toUInt64).toInt64)) + ((p4.toInt64) * (1000000 : Int64))) + (((p5 &&& (2147483647 : Int32)) % (1000000 : Int32)).toInt64))), .second, .unset, .unset, .unset, .unset, .unset] [(.ref b2), (.ref b2)])) _
    exact kt
  obtain ⟨_, _, ⟨T7, L7, k7, n7⟩, -, X7, ⟨Lc7, hQ7, l7, y7, z7⟩, st7⟩ := X2.specialBack hx (y := (⟨"com/example/backplane/backplane/ClusterClock", "<init>", "()V"⟩ : MethodName)) rfl hown (mvT hZ (hw _ (own_w 7 rfl))) (mvT hZ (hw _ (own_w 8 rfl))) (mvT hZ (hw _ (own_w 9 rfl))) (by decide) (backOf (W := 1) (rm1 l Z a0 hw [] b2 h2 n0 zs4 ) hZ (hw _ (own_w 9 rfl)) (hw _ (own_w 6 rfl)) (by decide) (by decide)) (g := (mkF m 61 #[.val (.long q1), .second, .val (.long q2), .second, .val (.long q3), .second, .val (.int p4), .val (.int p5), .val (.int p6), .val (.long ((q2.toUInt64 >>> ((2 : Int32) &&& 0x3f).toInt64.toUInt64).toInt64)), .second, .val (.long ((p6 &&& (1 : Int32)).toInt64)), .second, .val (.long ((q1 + ((2 : Int64) * ((q2.toUInt64 >>> ((2 : Int32) &&& 0x3f).toInt64.toUInt64).toInt64))) + ((p6 &&& (1 : Int32)).toInt64))), .second, .val (.long (q1 + ((q2.toUInt64 >>> ((2 : Int32) &&& 0x3f).toInt64.toUInt64).toInt64))), .second, .val (.long (((p5 &&& (2147483647 : Int32)) % (1000000 : Int32)).toInt64)), .second, .val (.long (((q1 + ((q2.toUInt64 >>> ((2 : Int32) &&& 0x3f).toInt64.toUInt64).toInt64)) + ((p4.toInt64) * (1000000 : Int64))) + (((p5 &&& (2147483647 : Int32)) % (1000000 : Int32)).toInt64))), .second, .unset, .unset, .unset, .unset, .unset] [(.ref b2), (.ref b2)])) rfl (by rw [hml]; rfl) (Steps.refl _) (a := b2) (argsL := []) (rest := [(.ref b2)]) (lenOf pd_0 rfl) rfl (by show 2 * 0 + _ ≤ _; exact Nat.le_of_eq rfl) (hb hby at_61) (fun _ _ => ⟨rfl, e2, (by decide : 1 + 0 ≤ _), (by decide : 1 + 0 ≤ _)⟩)
  dsimp only [Pt.U, Pt.locs, Pt.cells, Pt.slots] at X7 l7 y7 z7 st7 hQ7
  subst l7 y7 z7
  obtain ⟨rfl, Nq7, eq7⟩ := hQ7
  have N7 := Fr.app N0 Nq7
  have pre8 : own_Go p e below S0 (T7.setTop (mkF m 73 #[.val (.long q1), .second, .val (.long q2), .second, .val (.long q3), .second, .val (.int p4), .val (.int p5), .val (.int p6), .val (.long ((q2.toUInt64 >>> ((2 : Int32) &&& 0x3f).toInt64.toUInt64).toInt64)), .second, .val (.long ((p6 &&& (1 : Int32)).toInt64)), .second, .val (.long ((q1 + ((2 : Int64) * ((q2.toUInt64 >>> ((2 : Int32) &&& 0x3f).toInt64.toUInt64).toInt64))) + ((p6 &&& (1 : Int32)).toInt64))), .second, .val (.long (q1 + ((q2.toUInt64 >>> ((2 : Int32) &&& 0x3f).toInt64.toUInt64).toInt64))), .second, .val (.long (((p5 &&& (2147483647 : Int32)) % (1000000 : Int32)).toInt64)), .second, .val (.long (((q1 + ((q2.toUInt64 >>> ((2 : Int32) &&& 0x3f).toInt64.toUInt64).toInt64)) + ((p4.toInt64) * (1000000 : Int64))) + (((p5 &&& (2147483647 : Int32)) % (1000000 : Int32)).toInt64))), .second, .val (.ref b2), .unset, .unset, .unset, .unset] [(.long ((q1 + ((2 : Int64) * ((q2.toUInt64 >>> ((2 : Int32) &&& 0x3f).toInt64.toUInt64).toInt64))) + ((p6 &&& (1 : Int32)).toInt64))), (.long q3), (.long q1), (.ref b2)])) := by
    intro t kt
    refine pre6 t ?_
    refine st7.trans ?_
    show Steps p.tables e below (T7.setTop (mkF m 64 #[.val (.long q1), .second, .val (.long q2), .second, .val (.long q3), .second, .val (.int p4), .val (.int p5), .val (.int p6), .val (.long ((q2.toUInt64 >>> ((2 : Int32) &&& 0x3f).toInt64.toUInt64).toInt64)), .second, .val (.long ((p6 &&& (1 : Int32)).toInt64)), .second, .val (.long ((q1 + ((2 : Int64) * ((q2.toUInt64 >>> ((2 : Int32) &&& 0x3f).toInt64.toUInt64).toInt64))) + ((p6 &&& (1 : Int32)).toInt64))), .second, .val (.long (q1 + ((q2.toUInt64 >>> ((2 : Int32) &&& 0x3f).toInt64.toUInt64).toInt64))), .second, .val (.long (((p5 &&& (2147483647 : Int32)) % (1000000 : Int32)).toInt64)), .second, .val (.long (((q1 + ((q2.toUInt64 >>> ((2 : Int32) &&& 0x3f).toInt64.toUInt64).toInt64)) + ((p4.toInt64) * (1000000 : Int64))) + (((p5 &&& (2147483647 : Int32)) % (1000000 : Int32)).toInt64))), .second, .unset, .unset, .unset, .unset, .unset] [(.ref b2)])) _
    refine XS.astore X7.here hx rfl (hb hby at_64) rfl rfl (l' := #[.val (.long q1), .second, .val (.long q2), .second, .val (.long q3), .second, .val (.int p4), .val (.int p5), .val (.int p6), .val (.long ((q2.toUInt64 >>> ((2 : Int32) &&& 0x3f).toInt64.toUInt64).toInt64)), .second, .val (.long ((p6 &&& (1 : Int32)).toInt64)), .second, .val (.long ((q1 + ((2 : Int64) * ((q2.toUInt64 >>> ((2 : Int32) &&& 0x3f).toInt64.toUInt64).toInt64))) + ((p6 &&& (1 : Int32)).toInt64))), .second, .val (.long (q1 + ((q2.toUInt64 >>> ((2 : Int32) &&& 0x3f).toInt64.toUInt64).toInt64))), .second, .val (.long (((p5 &&& (2147483647 : Int32)) % (1000000 : Int32)).toInt64)), .second, .val (.long (((q1 + ((q2.toUInt64 >>> ((2 : Int32) &&& 0x3f).toInt64.toUInt64).toInt64)) + ((p4.toInt64) * (1000000 : Int64))) + (((p5 &&& (2147483647 : Int32)) % (1000000 : Int32)).toInt64))), .second, .val (.ref b2), .unset, .unset, .unset, .unset]) rfl ?_
    show Steps p.tables e below (T7.setTop (mkF m 66 #[.val (.long q1), .second, .val (.long q2), .second, .val (.long q3), .second, .val (.int p4), .val (.int p5), .val (.int p6), .val (.long ((q2.toUInt64 >>> ((2 : Int32) &&& 0x3f).toInt64.toUInt64).toInt64)), .second, .val (.long ((p6 &&& (1 : Int32)).toInt64)), .second, .val (.long ((q1 + ((2 : Int64) * ((q2.toUInt64 >>> ((2 : Int32) &&& 0x3f).toInt64.toUInt64).toInt64))) + ((p6 &&& (1 : Int32)).toInt64))), .second, .val (.long (q1 + ((q2.toUInt64 >>> ((2 : Int32) &&& 0x3f).toInt64.toUInt64).toInt64))), .second, .val (.long (((p5 &&& (2147483647 : Int32)) % (1000000 : Int32)).toInt64)), .second, .val (.long (((q1 + ((q2.toUInt64 >>> ((2 : Int32) &&& 0x3f).toInt64.toUInt64).toInt64)) + ((p4.toInt64) * (1000000 : Int64))) + (((p5 &&& (2147483647 : Int32)) % (1000000 : Int32)).toInt64))), .second, .val (.ref b2), .unset, .unset, .unset, .unset] [])) _
    refine XS.aload X7.here hx rfl (hb hby at_66) rfl rfl ?_
    show Steps p.tables e below (T7.setTop (mkF m 68 #[.val (.long q1), .second, .val (.long q2), .second, .val (.long q3), .second, .val (.int p4), .val (.int p5), .val (.int p6), .val (.long ((q2.toUInt64 >>> ((2 : Int32) &&& 0x3f).toInt64.toUInt64).toInt64)), .second, .val (.long ((p6 &&& (1 : Int32)).toInt64)), .second, .val (.long ((q1 + ((2 : Int64) * ((q2.toUInt64 >>> ((2 : Int32) &&& 0x3f).toInt64.toUInt64).toInt64))) + ((p6 &&& (1 : Int32)).toInt64))), .second, .val (.long (q1 + ((q2.toUInt64 >>> ((2 : Int32) &&& 0x3f).toInt64.toUInt64).toInt64))), .second, .val (.long (((p5 &&& (2147483647 : Int32)) % (1000000 : Int32)).toInt64)), .second, .val (.long (((q1 + ((q2.toUInt64 >>> ((2 : Int32) &&& 0x3f).toInt64.toUInt64).toInt64)) + ((p4.toInt64) * (1000000 : Int64))) + (((p5 &&& (2147483647 : Int32)) % (1000000 : Int32)).toInt64))), .second, .val (.ref b2), .unset, .unset, .unset, .unset] [(.ref b2)])) _
    refine XS.lloadN X7.here hx rfl (hb hby at_68) rfl ?_
    show Steps p.tables e below (T7.setTop (mkF m 69 #[.val (.long q1), .second, .val (.long q2), .second, .val (.long q3), .second, .val (.int p4), .val (.int p5), .val (.int p6), .val (.long ((q2.toUInt64 >>> ((2 : Int32) &&& 0x3f).toInt64.toUInt64).toInt64)), .second, .val (.long ((p6 &&& (1 : Int32)).toInt64)), .second, .val (.long ((q1 + ((2 : Int64) * ((q2.toUInt64 >>> ((2 : Int32) &&& 0x3f).toInt64.toUInt64).toInt64))) + ((p6 &&& (1 : Int32)).toInt64))), .second, .val (.long (q1 + ((q2.toUInt64 >>> ((2 : Int32) &&& 0x3f).toInt64.toUInt64).toInt64))), .second, .val (.long (((p5 &&& (2147483647 : Int32)) % (1000000 : Int32)).toInt64)), .second, .val (.long (((q1 + ((q2.toUInt64 >>> ((2 : Int32) &&& 0x3f).toInt64.toUInt64).toInt64)) + ((p4.toInt64) * (1000000 : Int64))) + (((p5 &&& (2147483647 : Int32)) % (1000000 : Int32)).toInt64))), .second, .val (.ref b2), .unset, .unset, .unset, .unset] [(.long q1), (.ref b2)])) _
    refine XS.lload X7.here hx rfl (hb hby at_69) rfl ?_
    show Steps p.tables e below (T7.setTop (mkF m 71 #[.val (.long q1), .second, .val (.long q2), .second, .val (.long q3), .second, .val (.int p4), .val (.int p5), .val (.int p6), .val (.long ((q2.toUInt64 >>> ((2 : Int32) &&& 0x3f).toInt64.toUInt64).toInt64)), .second, .val (.long ((p6 &&& (1 : Int32)).toInt64)), .second, .val (.long ((q1 + ((2 : Int64) * ((q2.toUInt64 >>> ((2 : Int32) &&& 0x3f).toInt64.toUInt64).toInt64))) + ((p6 &&& (1 : Int32)).toInt64))), .second, .val (.long (q1 + ((q2.toUInt64 >>> ((2 : Int32) &&& 0x3f).toInt64.toUInt64).toInt64))), .second, .val (.long (((p5 &&& (2147483647 : Int32)) % (1000000 : Int32)).toInt64)), .second, .val (.long (((q1 + ((q2.toUInt64 >>> ((2 : Int32) &&& 0x3f).toInt64.toUInt64).toInt64)) + ((p4.toInt64) * (1000000 : Int64))) + (((p5 &&& (2147483647 : Int32)) % (1000000 : Int32)).toInt64))), .second, .val (.ref b2), .unset, .unset, .unset, .unset] [(.long q3), (.long q1), (.ref b2)])) _
    refine XS.lload X7.here hx rfl (hb hby at_71) rfl ?_
    show Steps p.tables e below (T7.setTop (mkF m 73 #[.val (.long q1), .second, .val (.long q2), .second, .val (.long q3), .second, .val (.int p4), .val (.int p5), .val (.int p6), .val (.long ((q2.toUInt64 >>> ((2 : Int32) &&& 0x3f).toInt64.toUInt64).toInt64)), .second, .val (.long ((p6 &&& (1 : Int32)).toInt64)), .second, .val (.long ((q1 + ((2 : Int64) * ((q2.toUInt64 >>> ((2 : Int32) &&& 0x3f).toInt64.toUInt64).toInt64))) + ((p6 &&& (1 : Int32)).toInt64))), .second, .val (.long (q1 + ((q2.toUInt64 >>> ((2 : Int32) &&& 0x3f).toInt64.toUInt64).toInt64))), .second, .val (.long (((p5 &&& (2147483647 : Int32)) % (1000000 : Int32)).toInt64)), .second, .val (.long (((q1 + ((q2.toUInt64 >>> ((2 : Int32) &&& 0x3f).toInt64.toUInt64).toInt64)) + ((p4.toInt64) * (1000000 : Int64))) + (((p5 &&& (2147483647 : Int32)) % (1000000 : Int32)).toInt64))), .second, .val (.ref b2), .unset, .unset, .unset, .unset] [(.long ((q1 + ((2 : Int64) * ((q2.toUInt64 >>> ((2 : Int32) &&& 0x3f).toInt64.toUInt64).toInt64))) + ((p6 &&& (1 : Int32)).toInt64))), (.long q3), (.long q1), (.ref b2)])) _
    exact kt
  obtain ⟨cq9, kq9, qa9, qb9, qc9⟩ := isOf hZ eq7 A2
  obtain ⟨_, _, ⟨T9, L9, k9, n9⟩, -, X9, ⟨Lc9, hQ9, l9, y9, z9⟩, st9⟩ := X7.virtualBack hx (y := (⟨"com/example/backplane/backplane/ClusterClock", "sample", "(JJJ)V"⟩ : MethodName)) (z := (⟨"com/example/backplane/backplane/ClusterClock", "sample", "(JJJ)V"⟩ : MethodName)) hown (mvT hZ (hw _ (own_w 13 rfl))) (mvT hZ (hw _ (own_w 14 rfl))) (notFace_of_selects (args := #[]) (mvT hZ (hw _ (own_w 16 rfl)))) (mvT hZ (hw _ (own_w 16 rfl))) (mvT hZ (hw _ (own_w 15 rfl))) (by decide) (backOf (W := 0) (rm3 l Z a0 hw [] b2 q1 q3 ((q1 + ((2 : Int64) * ((q2.toUInt64 >>> ((2 : Int32) &&& 0x3f).toInt64.toUInt64).toInt64))) + ((p6 &&& (1 : Int32)).toInt64)) h2 n0 zs4 A2 ge3 fd5) hZ (hw _ (own_w 17 rfl)) (hw _ (own_w 6 rfl)) (by decide) (by decide)) qa9 qc9 (g := (mkF m 73 #[.val (.long q1), .second, .val (.long q2), .second, .val (.long q3), .second, .val (.int p4), .val (.int p5), .val (.int p6), .val (.long ((q2.toUInt64 >>> ((2 : Int32) &&& 0x3f).toInt64.toUInt64).toInt64)), .second, .val (.long ((p6 &&& (1 : Int32)).toInt64)), .second, .val (.long ((q1 + ((2 : Int64) * ((q2.toUInt64 >>> ((2 : Int32) &&& 0x3f).toInt64.toUInt64).toInt64))) + ((p6 &&& (1 : Int32)).toInt64))), .second, .val (.long (q1 + ((q2.toUInt64 >>> ((2 : Int32) &&& 0x3f).toInt64.toUInt64).toInt64))), .second, .val (.long (((p5 &&& (2147483647 : Int32)) % (1000000 : Int32)).toInt64)), .second, .val (.long (((q1 + ((q2.toUInt64 >>> ((2 : Int32) &&& 0x3f).toInt64.toUInt64).toInt64)) + ((p4.toInt64) * (1000000 : Int64))) + (((p5 &&& (2147483647 : Int32)) % (1000000 : Int32)).toInt64))), .second, .val (.ref b2), .unset, .unset, .unset, .unset] [(.long ((q1 + ((2 : Int64) * ((q2.toUInt64 >>> ((2 : Int32) &&& 0x3f).toInt64.toUInt64).toInt64))) + ((p6 &&& (1 : Int32)).toInt64))), (.long q3), (.long q1), (.ref b2)])) rfl (by rw [hml]; rfl) (Steps.refl _) (argsL := [(.long q1), (.long q3), (.long ((q1 + ((2 : Int64) * ((q2.toUInt64 >>> ((2 : Int32) &&& 0x3f).toInt64.toUInt64).toInt64))) + ((p6 &&& (1 : Int32)).toInt64)))]) (rest := []) (lenOf pd_1 rfl) rfl (by show 2 * 0 + _ ≤ _; exact Nat.le_of_eq rfl) (hb hby at_73) (fun _ _ => ⟨rfl, eq7, (by decide : 1 + 1 ≤ _), (by decide : 1 + 3 ≤ _)⟩)
  dsimp only [Pt.U, Pt.locs, Pt.cells, Pt.slots] at X9 l9 y9 z9 st9 hQ9
  subst l9 y9 z9
  obtain ⟨b10, rfl, Nq9, K9, g11, g12, g13, g14, g15, g16⟩ := hQ9
  have N9 := Fr.app N7 Nq9
  have ne17 : b2 ≠ b10 := Nat.ne_of_lt (Nat.lt_of_lt_of_le A2.lt g11)
  have ge18 : n0 ≤ b10 := Nat.le_trans zs4 g11
  have zs19 : n0 ≤ T9.heap.size := Nat.le_trans zs4 K9.1
  have pre20 : own_Go p e below S0 (T9.setTop (mkF m 80 #[.val (.long q1), .second, .val (.long q2), .second, .val (.long q3), .second, .val (.int p4), .val (.int p5), .val (.int p6), .val (.long ((q2.toUInt64 >>> ((2 : Int32) &&& 0x3f).toInt64.toUInt64).toInt64)), .second, .val (.long ((p6 &&& (1 : Int32)).toInt64)), .second, .val (.long ((q1 + ((2 : Int64) * ((q2.toUInt64 >>> ((2 : Int32) &&& 0x3f).toInt64.toUInt64).toInt64))) + ((p6 &&& (1 : Int32)).toInt64))), .second, .val (.long (q1 + ((q2.toUInt64 >>> ((2 : Int32) &&& 0x3f).toInt64.toUInt64).toInt64))), .second, .val (.long (((p5 &&& (2147483647 : Int32)) % (1000000 : Int32)).toInt64)), .second, .val (.long (((q1 + ((q2.toUInt64 >>> ((2 : Int32) &&& 0x3f).toInt64.toUInt64).toInt64)) + ((p4.toInt64) * (1000000 : Int64))) + (((p5 &&& (2147483647 : Int32)) % (1000000 : Int32)).toInt64))), .second, .val (.ref b2), .unset, .unset, .unset, .unset] [(.long (((q1 + ((q2.toUInt64 >>> ((2 : Int32) &&& 0x3f).toInt64.toUInt64).toInt64)) + ((p4.toInt64) * (1000000 : Int64))) + (((p5 &&& (2147483647 : Int32)) % (1000000 : Int32)).toInt64))), (.ref b2)])) := by
    intro t kt
    refine pre8 t ?_
    refine st9.trans ?_
    show Steps p.tables e below (T9.setTop (mkF m 76 #[.val (.long q1), .second, .val (.long q2), .second, .val (.long q3), .second, .val (.int p4), .val (.int p5), .val (.int p6), .val (.long ((q2.toUInt64 >>> ((2 : Int32) &&& 0x3f).toInt64.toUInt64).toInt64)), .second, .val (.long ((p6 &&& (1 : Int32)).toInt64)), .second, .val (.long ((q1 + ((2 : Int64) * ((q2.toUInt64 >>> ((2 : Int32) &&& 0x3f).toInt64.toUInt64).toInt64))) + ((p6 &&& (1 : Int32)).toInt64))), .second, .val (.long (q1 + ((q2.toUInt64 >>> ((2 : Int32) &&& 0x3f).toInt64.toUInt64).toInt64))), .second, .val (.long (((p5 &&& (2147483647 : Int32)) % (1000000 : Int32)).toInt64)), .second, .val (.long (((q1 + ((q2.toUInt64 >>> ((2 : Int32) &&& 0x3f).toInt64.toUInt64).toInt64)) + ((p4.toInt64) * (1000000 : Int64))) + (((p5 &&& (2147483647 : Int32)) % (1000000 : Int32)).toInt64))), .second, .val (.ref b2), .unset, .unset, .unset, .unset] [])) _
    refine XS.aload X9.here hx rfl (hb hby at_76) rfl rfl ?_
    show Steps p.tables e below (T9.setTop (mkF m 78 #[.val (.long q1), .second, .val (.long q2), .second, .val (.long q3), .second, .val (.int p4), .val (.int p5), .val (.int p6), .val (.long ((q2.toUInt64 >>> ((2 : Int32) &&& 0x3f).toInt64.toUInt64).toInt64)), .second, .val (.long ((p6 &&& (1 : Int32)).toInt64)), .second, .val (.long ((q1 + ((2 : Int64) * ((q2.toUInt64 >>> ((2 : Int32) &&& 0x3f).toInt64.toUInt64).toInt64))) + ((p6 &&& (1 : Int32)).toInt64))), .second, .val (.long (q1 + ((q2.toUInt64 >>> ((2 : Int32) &&& 0x3f).toInt64.toUInt64).toInt64))), .second, .val (.long (((p5 &&& (2147483647 : Int32)) % (1000000 : Int32)).toInt64)), .second, .val (.long (((q1 + ((q2.toUInt64 >>> ((2 : Int32) &&& 0x3f).toInt64.toUInt64).toInt64)) + ((p4.toInt64) * (1000000 : Int64))) + (((p5 &&& (2147483647 : Int32)) % (1000000 : Int32)).toInt64))), .second, .val (.ref b2), .unset, .unset, .unset, .unset] [(.ref b2)])) _
    refine XS.lload X9.here hx rfl (hb hby at_78) rfl ?_
    show Steps p.tables e below (T9.setTop (mkF m 80 #[.val (.long q1), .second, .val (.long q2), .second, .val (.long q3), .second, .val (.int p4), .val (.int p5), .val (.int p6), .val (.long ((q2.toUInt64 >>> ((2 : Int32) &&& 0x3f).toInt64.toUInt64).toInt64)), .second, .val (.long ((p6 &&& (1 : Int32)).toInt64)), .second, .val (.long ((q1 + ((2 : Int64) * ((q2.toUInt64 >>> ((2 : Int32) &&& 0x3f).toInt64.toUInt64).toInt64))) + ((p6 &&& (1 : Int32)).toInt64))), .second, .val (.long (q1 + ((q2.toUInt64 >>> ((2 : Int32) &&& 0x3f).toInt64.toUInt64).toInt64))), .second, .val (.long (((p5 &&& (2147483647 : Int32)) % (1000000 : Int32)).toInt64)), .second, .val (.long (((q1 + ((q2.toUInt64 >>> ((2 : Int32) &&& 0x3f).toInt64.toUInt64).toInt64)) + ((p4.toInt64) * (1000000 : Int64))) + (((p5 &&& (2147483647 : Int32)) % (1000000 : Int32)).toInt64))), .second, .val (.ref b2), .unset, .unset, .unset, .unset] [(.long (((q1 + ((q2.toUInt64 >>> ((2 : Int32) &&& 0x3f).toInt64.toUInt64).toInt64)) + ((p4.toInt64) * (1000000 : Int64))) + (((p5 &&& (2147483647 : Int32)) % (1000000 : Int32)).toInt64))), (.ref b2)])) _
    exact kt
  obtain ⟨cq21, kq21, qa21, qb21, qc21⟩ := isOf hZ rfl g12
  obtain ⟨_, _, ⟨T21, L21, k21, n21⟩, -, X21, ⟨Lc21, hQ21, l21, y21, z21⟩, st21⟩ := X9.virtualBack hx (y := (⟨"com/example/backplane/backplane/ClusterClock", "at", "(J)J"⟩ : MethodName)) (z := (⟨"com/example/backplane/backplane/ClusterClock", "at", "(J)J"⟩ : MethodName)) hown (mvT hZ (hw _ (own_w 39 rfl))) (mvT hZ (hw _ (own_w 40 rfl))) (notFace_of_selects (args := #[]) (mvT hZ (hw _ (own_w 42 rfl)))) (mvT hZ (hw _ (own_w 42 rfl))) (mvT hZ (hw _ (own_w 41 rfl))) (by decide) (backOf (W := 0) (rm6 l Z a0 hw [] b2 (((q1 + ((q2.toUInt64 >>> ((2 : Int32) &&& 0x3f).toInt64.toUInt64).toInt64)) + ((p4.toInt64) * (1000000 : Int64))) + (((p5 &&& (2147483647 : Int32)) % (1000000 : Int32)).toInt64)) b10 q3 (q1 + ((((q1 + ((2 : Int64) * ((q2.toUInt64 >>> ((2 : Int32) &&& 0x3f).toInt64.toUInt64).toInt64))) + ((p6 &&& (1 : Int32)).toInt64)) - q1) / (2 : Int64))) T9.heap n0 zs19 g13 g14 g15 g16) hZ (hw _ (own_w 43 rfl)) (hw _ (own_w 6 rfl)) (by decide) (by decide)) qa21 qc21 (g := (mkF m 80 #[.val (.long q1), .second, .val (.long q2), .second, .val (.long q3), .second, .val (.int p4), .val (.int p5), .val (.int p6), .val (.long ((q2.toUInt64 >>> ((2 : Int32) &&& 0x3f).toInt64.toUInt64).toInt64)), .second, .val (.long ((p6 &&& (1 : Int32)).toInt64)), .second, .val (.long ((q1 + ((2 : Int64) * ((q2.toUInt64 >>> ((2 : Int32) &&& 0x3f).toInt64.toUInt64).toInt64))) + ((p6 &&& (1 : Int32)).toInt64))), .second, .val (.long (q1 + ((q2.toUInt64 >>> ((2 : Int32) &&& 0x3f).toInt64.toUInt64).toInt64))), .second, .val (.long (((p5 &&& (2147483647 : Int32)) % (1000000 : Int32)).toInt64)), .second, .val (.long (((q1 + ((q2.toUInt64 >>> ((2 : Int32) &&& 0x3f).toInt64.toUInt64).toInt64)) + ((p4.toInt64) * (1000000 : Int64))) + (((p5 &&& (2147483647 : Int32)) % (1000000 : Int32)).toInt64))), .second, .val (.ref b2), .unset, .unset, .unset, .unset] [(.long (((q1 + ((q2.toUInt64 >>> ((2 : Int32) &&& 0x3f).toInt64.toUInt64).toInt64)) + ((p4.toInt64) * (1000000 : Int64))) + (((p5 &&& (2147483647 : Int32)) % (1000000 : Int32)).toInt64))), (.ref b2)])) rfl (by rw [hml]; rfl) (Steps.refl _) (argsL := [(.long (((q1 + ((q2.toUInt64 >>> ((2 : Int32) &&& 0x3f).toInt64.toUInt64).toInt64)) + ((p4.toInt64) * (1000000 : Int64))) + (((p5 &&& (2147483647 : Int32)) % (1000000 : Int32)).toInt64)))]) (rest := []) (lenOf pd_4 rfl) rfl (by show 2 * 0 + _ ≤ _; exact Nat.le_of_eq rfl) (hb hby at_80) (fun _ _ => ⟨rfl, rfl, (by decide : 2 + 0 ≤ _), (by decide : 4 + 0 ≤ _)⟩)
  dsimp only [Pt.U, Pt.locs, Pt.cells, Pt.slots] at X21 l21 y21 z21 st21 hQ21
  subst l21 y21 z21
  obtain ⟨rfl, Nq21, eq21⟩ := hQ21
  have N21 := Fr.app N9 Nq21
  have pre22 : own_Go p e below S0 (T21.setTop (mkF m 106 #[.val (.long q1), .second, .val (.long q2), .second, .val (.long q3), .second, .val (.int p4), .val (.int p5), .val (.int p6), .val (.long ((q2.toUInt64 >>> ((2 : Int32) &&& 0x3f).toInt64.toUInt64).toInt64)), .second, .val (.long ((p6 &&& (1 : Int32)).toInt64)), .second, .val (.long ((q1 + ((2 : Int64) * ((q2.toUInt64 >>> ((2 : Int32) &&& 0x3f).toInt64.toUInt64).toInt64))) + ((p6 &&& (1 : Int32)).toInt64))), .second, .val (.long (q1 + ((q2.toUInt64 >>> ((2 : Int32) &&& 0x3f).toInt64.toUInt64).toInt64))), .second, .val (.long (((p5 &&& (2147483647 : Int32)) % (1000000 : Int32)).toInt64)), .second, .val (.long (((q1 + ((q2.toUInt64 >>> ((2 : Int32) &&& 0x3f).toInt64.toUInt64).toInt64)) + ((p4.toInt64) * (1000000 : Int64))) + (((p5 &&& (2147483647 : Int32)) % (1000000 : Int32)).toInt64))), .second, .val (.ref b2), .val (.long (q3 + (own_fd ((((q1 + ((q2.toUInt64 >>> ((2 : Int32) &&& 0x3f).toInt64.toUInt64).toInt64)) + ((p4.toInt64) * (1000000 : Int64))) + (((p5 &&& (2147483647 : Int32)) % (1000000 : Int32)).toInt64)) - (q1 + ((((q1 + ((2 : Int64) * ((q2.toUInt64 >>> ((2 : Int32) &&& 0x3f).toInt64.toUInt64).toInt64))) + ((p6 &&& (1 : Int32)).toInt64)) - q1) / (2 : Int64)))) (1000000 : Int64)))), .second, .val (.long (q3 + (p4.toInt64))), .second] [(.int (1 : Int32))])) := by
    intro t kt
    refine pre20 t ?_
    refine st21.trans ?_
    show Steps p.tables e below (T21.setTop (mkF m 83 #[.val (.long q1), .second, .val (.long q2), .second, .val (.long q3), .second, .val (.int p4), .val (.int p5), .val (.int p6), .val (.long ((q2.toUInt64 >>> ((2 : Int32) &&& 0x3f).toInt64.toUInt64).toInt64)), .second, .val (.long ((p6 &&& (1 : Int32)).toInt64)), .second, .val (.long ((q1 + ((2 : Int64) * ((q2.toUInt64 >>> ((2 : Int32) &&& 0x3f).toInt64.toUInt64).toInt64))) + ((p6 &&& (1 : Int32)).toInt64))), .second, .val (.long (q1 + ((q2.toUInt64 >>> ((2 : Int32) &&& 0x3f).toInt64.toUInt64).toInt64))), .second, .val (.long (((p5 &&& (2147483647 : Int32)) % (1000000 : Int32)).toInt64)), .second, .val (.long (((q1 + ((q2.toUInt64 >>> ((2 : Int32) &&& 0x3f).toInt64.toUInt64).toInt64)) + ((p4.toInt64) * (1000000 : Int64))) + (((p5 &&& (2147483647 : Int32)) % (1000000 : Int32)).toInt64))), .second, .val (.ref b2), .unset, .unset, .unset, .unset] [(.long (q3 + (own_fd ((((q1 + ((q2.toUInt64 >>> ((2 : Int32) &&& 0x3f).toInt64.toUInt64).toInt64)) + ((p4.toInt64) * (1000000 : Int64))) + (((p5 &&& (2147483647 : Int32)) % (1000000 : Int32)).toInt64)) - (q1 + ((((q1 + ((2 : Int64) * ((q2.toUInt64 >>> ((2 : Int32) &&& 0x3f).toInt64.toUInt64).toInt64))) + ((p6 &&& (1 : Int32)).toInt64)) - q1) / (2 : Int64)))) (1000000 : Int64))))])) _
    refine XS.lstore X21.here hx rfl (hb hby at_83) rfl (l' := #[.val (.long q1), .second, .val (.long q2), .second, .val (.long q3), .second, .val (.int p4), .val (.int p5), .val (.int p6), .val (.long ((q2.toUInt64 >>> ((2 : Int32) &&& 0x3f).toInt64.toUInt64).toInt64)), .second, .val (.long ((p6 &&& (1 : Int32)).toInt64)), .second, .val (.long ((q1 + ((2 : Int64) * ((q2.toUInt64 >>> ((2 : Int32) &&& 0x3f).toInt64.toUInt64).toInt64))) + ((p6 &&& (1 : Int32)).toInt64))), .second, .val (.long (q1 + ((q2.toUInt64 >>> ((2 : Int32) &&& 0x3f).toInt64.toUInt64).toInt64))), .second, .val (.long (((p5 &&& (2147483647 : Int32)) % (1000000 : Int32)).toInt64)), .second, .val (.long (((q1 + ((q2.toUInt64 >>> ((2 : Int32) &&& 0x3f).toInt64.toUInt64).toInt64)) + ((p4.toInt64) * (1000000 : Int64))) + (((p5 &&& (2147483647 : Int32)) % (1000000 : Int32)).toInt64))), .second, .val (.ref b2), .val (.long (q3 + (own_fd ((((q1 + ((q2.toUInt64 >>> ((2 : Int32) &&& 0x3f).toInt64.toUInt64).toInt64)) + ((p4.toInt64) * (1000000 : Int64))) + (((p5 &&& (2147483647 : Int32)) % (1000000 : Int32)).toInt64)) - (q1 + ((((q1 + ((2 : Int64) * ((q2.toUInt64 >>> ((2 : Int32) &&& 0x3f).toInt64.toUInt64).toInt64))) + ((p6 &&& (1 : Int32)).toInt64)) - q1) / (2 : Int64)))) (1000000 : Int64)))), .second, .unset, .unset]) rfl ?_
    show Steps p.tables e below (T21.setTop (mkF m 85 #[.val (.long q1), .second, .val (.long q2), .second, .val (.long q3), .second, .val (.int p4), .val (.int p5), .val (.int p6), .val (.long ((q2.toUInt64 >>> ((2 : Int32) &&& 0x3f).toInt64.toUInt64).toInt64)), .second, .val (.long ((p6 &&& (1 : Int32)).toInt64)), .second, .val (.long ((q1 + ((2 : Int64) * ((q2.toUInt64 >>> ((2 : Int32) &&& 0x3f).toInt64.toUInt64).toInt64))) + ((p6 &&& (1 : Int32)).toInt64))), .second, .val (.long (q1 + ((q2.toUInt64 >>> ((2 : Int32) &&& 0x3f).toInt64.toUInt64).toInt64))), .second, .val (.long (((p5 &&& (2147483647 : Int32)) % (1000000 : Int32)).toInt64)), .second, .val (.long (((q1 + ((q2.toUInt64 >>> ((2 : Int32) &&& 0x3f).toInt64.toUInt64).toInt64)) + ((p4.toInt64) * (1000000 : Int64))) + (((p5 &&& (2147483647 : Int32)) % (1000000 : Int32)).toInt64))), .second, .val (.ref b2), .val (.long (q3 + (own_fd ((((q1 + ((q2.toUInt64 >>> ((2 : Int32) &&& 0x3f).toInt64.toUInt64).toInt64)) + ((p4.toInt64) * (1000000 : Int64))) + (((p5 &&& (2147483647 : Int32)) % (1000000 : Int32)).toInt64)) - (q1 + ((((q1 + ((2 : Int64) * ((q2.toUInt64 >>> ((2 : Int32) &&& 0x3f).toInt64.toUInt64).toInt64))) + ((p6 &&& (1 : Int32)).toInt64)) - q1) / (2 : Int64)))) (1000000 : Int64)))), .second, .unset, .unset] [])) _
    refine XS.lload X21.here hx rfl (hb hby at_85) rfl ?_
    show Steps p.tables e below (T21.setTop (mkF m 87 #[.val (.long q1), .second, .val (.long q2), .second, .val (.long q3), .second, .val (.int p4), .val (.int p5), .val (.int p6), .val (.long ((q2.toUInt64 >>> ((2 : Int32) &&& 0x3f).toInt64.toUInt64).toInt64)), .second, .val (.long ((p6 &&& (1 : Int32)).toInt64)), .second, .val (.long ((q1 + ((2 : Int64) * ((q2.toUInt64 >>> ((2 : Int32) &&& 0x3f).toInt64.toUInt64).toInt64))) + ((p6 &&& (1 : Int32)).toInt64))), .second, .val (.long (q1 + ((q2.toUInt64 >>> ((2 : Int32) &&& 0x3f).toInt64.toUInt64).toInt64))), .second, .val (.long (((p5 &&& (2147483647 : Int32)) % (1000000 : Int32)).toInt64)), .second, .val (.long (((q1 + ((q2.toUInt64 >>> ((2 : Int32) &&& 0x3f).toInt64.toUInt64).toInt64)) + ((p4.toInt64) * (1000000 : Int64))) + (((p5 &&& (2147483647 : Int32)) % (1000000 : Int32)).toInt64))), .second, .val (.ref b2), .val (.long (q3 + (own_fd ((((q1 + ((q2.toUInt64 >>> ((2 : Int32) &&& 0x3f).toInt64.toUInt64).toInt64)) + ((p4.toInt64) * (1000000 : Int64))) + (((p5 &&& (2147483647 : Int32)) % (1000000 : Int32)).toInt64)) - (q1 + ((((q1 + ((2 : Int64) * ((q2.toUInt64 >>> ((2 : Int32) &&& 0x3f).toInt64.toUInt64).toInt64))) + ((p6 &&& (1 : Int32)).toInt64)) - q1) / (2 : Int64)))) (1000000 : Int64)))), .second, .unset, .unset] [(.long q3)])) _
    refine XS.iload X21.here hx rfl (hb hby at_87) rfl ?_
    show Steps p.tables e below (T21.setTop (mkF m 89 #[.val (.long q1), .second, .val (.long q2), .second, .val (.long q3), .second, .val (.int p4), .val (.int p5), .val (.int p6), .val (.long ((q2.toUInt64 >>> ((2 : Int32) &&& 0x3f).toInt64.toUInt64).toInt64)), .second, .val (.long ((p6 &&& (1 : Int32)).toInt64)), .second, .val (.long ((q1 + ((2 : Int64) * ((q2.toUInt64 >>> ((2 : Int32) &&& 0x3f).toInt64.toUInt64).toInt64))) + ((p6 &&& (1 : Int32)).toInt64))), .second, .val (.long (q1 + ((q2.toUInt64 >>> ((2 : Int32) &&& 0x3f).toInt64.toUInt64).toInt64))), .second, .val (.long (((p5 &&& (2147483647 : Int32)) % (1000000 : Int32)).toInt64)), .second, .val (.long (((q1 + ((q2.toUInt64 >>> ((2 : Int32) &&& 0x3f).toInt64.toUInt64).toInt64)) + ((p4.toInt64) * (1000000 : Int64))) + (((p5 &&& (2147483647 : Int32)) % (1000000 : Int32)).toInt64))), .second, .val (.ref b2), .val (.long (q3 + (own_fd ((((q1 + ((q2.toUInt64 >>> ((2 : Int32) &&& 0x3f).toInt64.toUInt64).toInt64)) + ((p4.toInt64) * (1000000 : Int64))) + (((p5 &&& (2147483647 : Int32)) % (1000000 : Int32)).toInt64)) - (q1 + ((((q1 + ((2 : Int64) * ((q2.toUInt64 >>> ((2 : Int32) &&& 0x3f).toInt64.toUInt64).toInt64))) + ((p6 &&& (1 : Int32)).toInt64)) - q1) / (2 : Int64)))) (1000000 : Int64)))), .second, .unset, .unset] [(.int p4), (.long q3)])) _
    refine XS.i2l X21.here hx rfl (hb hby at_89) rfl ?_
    show Steps p.tables e below (T21.setTop (mkF m 90 #[.val (.long q1), .second, .val (.long q2), .second, .val (.long q3), .second, .val (.int p4), .val (.int p5), .val (.int p6), .val (.long ((q2.toUInt64 >>> ((2 : Int32) &&& 0x3f).toInt64.toUInt64).toInt64)), .second, .val (.long ((p6 &&& (1 : Int32)).toInt64)), .second, .val (.long ((q1 + ((2 : Int64) * ((q2.toUInt64 >>> ((2 : Int32) &&& 0x3f).toInt64.toUInt64).toInt64))) + ((p6 &&& (1 : Int32)).toInt64))), .second, .val (.long (q1 + ((q2.toUInt64 >>> ((2 : Int32) &&& 0x3f).toInt64.toUInt64).toInt64))), .second, .val (.long (((p5 &&& (2147483647 : Int32)) % (1000000 : Int32)).toInt64)), .second, .val (.long (((q1 + ((q2.toUInt64 >>> ((2 : Int32) &&& 0x3f).toInt64.toUInt64).toInt64)) + ((p4.toInt64) * (1000000 : Int64))) + (((p5 &&& (2147483647 : Int32)) % (1000000 : Int32)).toInt64))), .second, .val (.ref b2), .val (.long (q3 + (own_fd ((((q1 + ((q2.toUInt64 >>> ((2 : Int32) &&& 0x3f).toInt64.toUInt64).toInt64)) + ((p4.toInt64) * (1000000 : Int64))) + (((p5 &&& (2147483647 : Int32)) % (1000000 : Int32)).toInt64)) - (q1 + ((((q1 + ((2 : Int64) * ((q2.toUInt64 >>> ((2 : Int32) &&& 0x3f).toInt64.toUInt64).toInt64))) + ((p6 &&& (1 : Int32)).toInt64)) - q1) / (2 : Int64)))) (1000000 : Int64)))), .second, .unset, .unset] [(.long (p4.toInt64)), (.long q3)])) _
    refine XS.ladd X21.here hx rfl (hb hby at_90) rfl ?_
    show Steps p.tables e below (T21.setTop (mkF m 91 #[.val (.long q1), .second, .val (.long q2), .second, .val (.long q3), .second, .val (.int p4), .val (.int p5), .val (.int p6), .val (.long ((q2.toUInt64 >>> ((2 : Int32) &&& 0x3f).toInt64.toUInt64).toInt64)), .second, .val (.long ((p6 &&& (1 : Int32)).toInt64)), .second, .val (.long ((q1 + ((2 : Int64) * ((q2.toUInt64 >>> ((2 : Int32) &&& 0x3f).toInt64.toUInt64).toInt64))) + ((p6 &&& (1 : Int32)).toInt64))), .second, .val (.long (q1 + ((q2.toUInt64 >>> ((2 : Int32) &&& 0x3f).toInt64.toUInt64).toInt64))), .second, .val (.long (((p5 &&& (2147483647 : Int32)) % (1000000 : Int32)).toInt64)), .second, .val (.long (((q1 + ((q2.toUInt64 >>> ((2 : Int32) &&& 0x3f).toInt64.toUInt64).toInt64)) + ((p4.toInt64) * (1000000 : Int64))) + (((p5 &&& (2147483647 : Int32)) % (1000000 : Int32)).toInt64))), .second, .val (.ref b2), .val (.long (q3 + (own_fd ((((q1 + ((q2.toUInt64 >>> ((2 : Int32) &&& 0x3f).toInt64.toUInt64).toInt64)) + ((p4.toInt64) * (1000000 : Int64))) + (((p5 &&& (2147483647 : Int32)) % (1000000 : Int32)).toInt64)) - (q1 + ((((q1 + ((2 : Int64) * ((q2.toUInt64 >>> ((2 : Int32) &&& 0x3f).toInt64.toUInt64).toInt64))) + ((p6 &&& (1 : Int32)).toInt64)) - q1) / (2 : Int64)))) (1000000 : Int64)))), .second, .unset, .unset] [(.long (q3 + (p4.toInt64)))])) _
    refine XS.lstore X21.here hx rfl (hb hby at_91) rfl (l' := #[.val (.long q1), .second, .val (.long q2), .second, .val (.long q3), .second, .val (.int p4), .val (.int p5), .val (.int p6), .val (.long ((q2.toUInt64 >>> ((2 : Int32) &&& 0x3f).toInt64.toUInt64).toInt64)), .second, .val (.long ((p6 &&& (1 : Int32)).toInt64)), .second, .val (.long ((q1 + ((2 : Int64) * ((q2.toUInt64 >>> ((2 : Int32) &&& 0x3f).toInt64.toUInt64).toInt64))) + ((p6 &&& (1 : Int32)).toInt64))), .second, .val (.long (q1 + ((q2.toUInt64 >>> ((2 : Int32) &&& 0x3f).toInt64.toUInt64).toInt64))), .second, .val (.long (((p5 &&& (2147483647 : Int32)) % (1000000 : Int32)).toInt64)), .second, .val (.long (((q1 + ((q2.toUInt64 >>> ((2 : Int32) &&& 0x3f).toInt64.toUInt64).toInt64)) + ((p4.toInt64) * (1000000 : Int64))) + (((p5 &&& (2147483647 : Int32)) % (1000000 : Int32)).toInt64))), .second, .val (.ref b2), .val (.long (q3 + (own_fd ((((q1 + ((q2.toUInt64 >>> ((2 : Int32) &&& 0x3f).toInt64.toUInt64).toInt64)) + ((p4.toInt64) * (1000000 : Int64))) + (((p5 &&& (2147483647 : Int32)) % (1000000 : Int32)).toInt64)) - (q1 + ((((q1 + ((2 : Int64) * ((q2.toUInt64 >>> ((2 : Int32) &&& 0x3f).toInt64.toUInt64).toInt64))) + ((p6 &&& (1 : Int32)).toInt64)) - q1) / (2 : Int64)))) (1000000 : Int64)))), .second, .val (.long (q3 + (p4.toInt64))), .second]) rfl ?_
    show Steps p.tables e below (T21.setTop (mkF m 93 #[.val (.long q1), .second, .val (.long q2), .second, .val (.long q3), .second, .val (.int p4), .val (.int p5), .val (.int p6), .val (.long ((q2.toUInt64 >>> ((2 : Int32) &&& 0x3f).toInt64.toUInt64).toInt64)), .second, .val (.long ((p6 &&& (1 : Int32)).toInt64)), .second, .val (.long ((q1 + ((2 : Int64) * ((q2.toUInt64 >>> ((2 : Int32) &&& 0x3f).toInt64.toUInt64).toInt64))) + ((p6 &&& (1 : Int32)).toInt64))), .second, .val (.long (q1 + ((q2.toUInt64 >>> ((2 : Int32) &&& 0x3f).toInt64.toUInt64).toInt64))), .second, .val (.long (((p5 &&& (2147483647 : Int32)) % (1000000 : Int32)).toInt64)), .second, .val (.long (((q1 + ((q2.toUInt64 >>> ((2 : Int32) &&& 0x3f).toInt64.toUInt64).toInt64)) + ((p4.toInt64) * (1000000 : Int64))) + (((p5 &&& (2147483647 : Int32)) % (1000000 : Int32)).toInt64))), .second, .val (.ref b2), .val (.long (q3 + (own_fd ((((q1 + ((q2.toUInt64 >>> ((2 : Int32) &&& 0x3f).toInt64.toUInt64).toInt64)) + ((p4.toInt64) * (1000000 : Int64))) + (((p5 &&& (2147483647 : Int32)) % (1000000 : Int32)).toInt64)) - (q1 + ((((q1 + ((2 : Int64) * ((q2.toUInt64 >>> ((2 : Int32) &&& 0x3f).toInt64.toUInt64).toInt64))) + ((p6 &&& (1 : Int32)).toInt64)) - q1) / (2 : Int64)))) (1000000 : Int64)))), .second, .val (.long (q3 + (p4.toInt64))), .second] [])) _
    refine XS.lload X21.here hx rfl (hb hby at_93) rfl ?_
    show Steps p.tables e below (T21.setTop (mkF m 95 #[.val (.long q1), .second, .val (.long q2), .second, .val (.long q3), .second, .val (.int p4), .val (.int p5), .val (.int p6), .val (.long ((q2.toUInt64 >>> ((2 : Int32) &&& 0x3f).toInt64.toUInt64).toInt64)), .second, .val (.long ((p6 &&& (1 : Int32)).toInt64)), .second, .val (.long ((q1 + ((2 : Int64) * ((q2.toUInt64 >>> ((2 : Int32) &&& 0x3f).toInt64.toUInt64).toInt64))) + ((p6 &&& (1 : Int32)).toInt64))), .second, .val (.long (q1 + ((q2.toUInt64 >>> ((2 : Int32) &&& 0x3f).toInt64.toUInt64).toInt64))), .second, .val (.long (((p5 &&& (2147483647 : Int32)) % (1000000 : Int32)).toInt64)), .second, .val (.long (((q1 + ((q2.toUInt64 >>> ((2 : Int32) &&& 0x3f).toInt64.toUInt64).toInt64)) + ((p4.toInt64) * (1000000 : Int64))) + (((p5 &&& (2147483647 : Int32)) % (1000000 : Int32)).toInt64))), .second, .val (.ref b2), .val (.long (q3 + (own_fd ((((q1 + ((q2.toUInt64 >>> ((2 : Int32) &&& 0x3f).toInt64.toUInt64).toInt64)) + ((p4.toInt64) * (1000000 : Int64))) + (((p5 &&& (2147483647 : Int32)) % (1000000 : Int32)).toInt64)) - (q1 + ((((q1 + ((2 : Int64) * ((q2.toUInt64 >>> ((2 : Int32) &&& 0x3f).toInt64.toUInt64).toInt64))) + ((p6 &&& (1 : Int32)).toInt64)) - q1) / (2 : Int64)))) (1000000 : Int64)))), .second, .val (.long (q3 + (p4.toInt64))), .second] [(.long (q3 + (own_fd ((((q1 + ((q2.toUInt64 >>> ((2 : Int32) &&& 0x3f).toInt64.toUInt64).toInt64)) + ((p4.toInt64) * (1000000 : Int64))) + (((p5 &&& (2147483647 : Int32)) % (1000000 : Int32)).toInt64)) - (q1 + ((((q1 + ((2 : Int64) * ((q2.toUInt64 >>> ((2 : Int32) &&& 0x3f).toInt64.toUInt64).toInt64))) + ((p6 &&& (1 : Int32)).toInt64)) - q1) / (2 : Int64)))) (1000000 : Int64))))])) _
    refine XS.lload X21.here hx rfl (hb hby at_95) rfl ?_
    show Steps p.tables e below (T21.setTop (mkF m 97 #[.val (.long q1), .second, .val (.long q2), .second, .val (.long q3), .second, .val (.int p4), .val (.int p5), .val (.int p6), .val (.long ((q2.toUInt64 >>> ((2 : Int32) &&& 0x3f).toInt64.toUInt64).toInt64)), .second, .val (.long ((p6 &&& (1 : Int32)).toInt64)), .second, .val (.long ((q1 + ((2 : Int64) * ((q2.toUInt64 >>> ((2 : Int32) &&& 0x3f).toInt64.toUInt64).toInt64))) + ((p6 &&& (1 : Int32)).toInt64))), .second, .val (.long (q1 + ((q2.toUInt64 >>> ((2 : Int32) &&& 0x3f).toInt64.toUInt64).toInt64))), .second, .val (.long (((p5 &&& (2147483647 : Int32)) % (1000000 : Int32)).toInt64)), .second, .val (.long (((q1 + ((q2.toUInt64 >>> ((2 : Int32) &&& 0x3f).toInt64.toUInt64).toInt64)) + ((p4.toInt64) * (1000000 : Int64))) + (((p5 &&& (2147483647 : Int32)) % (1000000 : Int32)).toInt64))), .second, .val (.ref b2), .val (.long (q3 + (own_fd ((((q1 + ((q2.toUInt64 >>> ((2 : Int32) &&& 0x3f).toInt64.toUInt64).toInt64)) + ((p4.toInt64) * (1000000 : Int64))) + (((p5 &&& (2147483647 : Int32)) % (1000000 : Int32)).toInt64)) - (q1 + ((((q1 + ((2 : Int64) * ((q2.toUInt64 >>> ((2 : Int32) &&& 0x3f).toInt64.toUInt64).toInt64))) + ((p6 &&& (1 : Int32)).toInt64)) - q1) / (2 : Int64)))) (1000000 : Int64)))), .second, .val (.long (q3 + (p4.toInt64))), .second] [(.long (q3 + (p4.toInt64))), (.long (q3 + (own_fd ((((q1 + ((q2.toUInt64 >>> ((2 : Int32) &&& 0x3f).toInt64.toUInt64).toInt64)) + ((p4.toInt64) * (1000000 : Int64))) + (((p5 &&& (2147483647 : Int32)) % (1000000 : Int32)).toInt64)) - (q1 + ((((q1 + ((2 : Int64) * ((q2.toUInt64 >>> ((2 : Int32) &&& 0x3f).toInt64.toUInt64).toInt64))) + ((p6 &&& (1 : Int32)).toInt64)) - q1) / (2 : Int64)))) (1000000 : Int64))))])) _
    refine XS.lcmp X21.here hx rfl (hb hby at_97) rfl ?_
    show Steps p.tables e below (T21.setTop (mkF m 98 #[.val (.long q1), .second, .val (.long q2), .second, .val (.long q3), .second, .val (.int p4), .val (.int p5), .val (.int p6), .val (.long ((q2.toUInt64 >>> ((2 : Int32) &&& 0x3f).toInt64.toUInt64).toInt64)), .second, .val (.long ((p6 &&& (1 : Int32)).toInt64)), .second, .val (.long ((q1 + ((2 : Int64) * ((q2.toUInt64 >>> ((2 : Int32) &&& 0x3f).toInt64.toUInt64).toInt64))) + ((p6 &&& (1 : Int32)).toInt64))), .second, .val (.long (q1 + ((q2.toUInt64 >>> ((2 : Int32) &&& 0x3f).toInt64.toUInt64).toInt64))), .second, .val (.long (((p5 &&& (2147483647 : Int32)) % (1000000 : Int32)).toInt64)), .second, .val (.long (((q1 + ((q2.toUInt64 >>> ((2 : Int32) &&& 0x3f).toInt64.toUInt64).toInt64)) + ((p4.toInt64) * (1000000 : Int64))) + (((p5 &&& (2147483647 : Int32)) % (1000000 : Int32)).toInt64))), .second, .val (.ref b2), .val (.long (q3 + (own_fd ((((q1 + ((q2.toUInt64 >>> ((2 : Int32) &&& 0x3f).toInt64.toUInt64).toInt64)) + ((p4.toInt64) * (1000000 : Int64))) + (((p5 &&& (2147483647 : Int32)) % (1000000 : Int32)).toInt64)) - (q1 + ((((q1 + ((2 : Int64) * ((q2.toUInt64 >>> ((2 : Int32) &&& 0x3f).toInt64.toUInt64).toInt64))) + ((p6 &&& (1 : Int32)).toInt64)) - q1) / (2 : Int64)))) (1000000 : Int64)))), .second, .val (.long (q3 + (p4.toInt64))), .second] [(.int (lcmpW (q3 + (own_fd ((((q1 + ((q2.toUInt64 >>> ((2 : Int32) &&& 0x3f).toInt64.toUInt64).toInt64)) + ((p4.toInt64) * (1000000 : Int64))) + (((p5 &&& (2147483647 : Int32)) % (1000000 : Int32)).toInt64)) - (q1 + ((((q1 + ((2 : Int64) * ((q2.toUInt64 >>> ((2 : Int32) &&& 0x3f).toInt64.toUInt64).toInt64))) + ((p6 &&& (1 : Int32)).toInt64)) - q1) / (2 : Int64)))) (1000000 : Int64))) (q3 + (p4.toInt64))))])) _
    refine XS.ifNo X21.here hx rfl (hb hby at_98) rfl ((if0 _ _).trans (teq ((lw_eq _ _).mpr (own_law _ _ _ _ _ _))).2) ?_
    show Steps p.tables e below (T21.setTop (mkF m 101 #[.val (.long q1), .second, .val (.long q2), .second, .val (.long q3), .second, .val (.int p4), .val (.int p5), .val (.int p6), .val (.long ((q2.toUInt64 >>> ((2 : Int32) &&& 0x3f).toInt64.toUInt64).toInt64)), .second, .val (.long ((p6 &&& (1 : Int32)).toInt64)), .second, .val (.long ((q1 + ((2 : Int64) * ((q2.toUInt64 >>> ((2 : Int32) &&& 0x3f).toInt64.toUInt64).toInt64))) + ((p6 &&& (1 : Int32)).toInt64))), .second, .val (.long (q1 + ((q2.toUInt64 >>> ((2 : Int32) &&& 0x3f).toInt64.toUInt64).toInt64))), .second, .val (.long (((p5 &&& (2147483647 : Int32)) % (1000000 : Int32)).toInt64)), .second, .val (.long (((q1 + ((q2.toUInt64 >>> ((2 : Int32) &&& 0x3f).toInt64.toUInt64).toInt64)) + ((p4.toInt64) * (1000000 : Int64))) + (((p5 &&& (2147483647 : Int32)) % (1000000 : Int32)).toInt64))), .second, .val (.ref b2), .val (.long (q3 + (own_fd ((((q1 + ((q2.toUInt64 >>> ((2 : Int32) &&& 0x3f).toInt64.toUInt64).toInt64)) + ((p4.toInt64) * (1000000 : Int64))) + (((p5 &&& (2147483647 : Int32)) % (1000000 : Int32)).toInt64)) - (q1 + ((((q1 + ((2 : Int64) * ((q2.toUInt64 >>> ((2 : Int32) &&& 0x3f).toInt64.toUInt64).toInt64))) + ((p6 &&& (1 : Int32)).toInt64)) - q1) / (2 : Int64)))) (1000000 : Int64)))), .second, .val (.long (q3 + (p4.toInt64))), .second] [])) _
    refine XS.iconst X21.here hx rfl (hb hby at_101) ?_
    show Steps p.tables e below (T21.setTop (mkF m 102 #[.val (.long q1), .second, .val (.long q2), .second, .val (.long q3), .second, .val (.int p4), .val (.int p5), .val (.int p6), .val (.long ((q2.toUInt64 >>> ((2 : Int32) &&& 0x3f).toInt64.toUInt64).toInt64)), .second, .val (.long ((p6 &&& (1 : Int32)).toInt64)), .second, .val (.long ((q1 + ((2 : Int64) * ((q2.toUInt64 >>> ((2 : Int32) &&& 0x3f).toInt64.toUInt64).toInt64))) + ((p6 &&& (1 : Int32)).toInt64))), .second, .val (.long (q1 + ((q2.toUInt64 >>> ((2 : Int32) &&& 0x3f).toInt64.toUInt64).toInt64))), .second, .val (.long (((p5 &&& (2147483647 : Int32)) % (1000000 : Int32)).toInt64)), .second, .val (.long (((q1 + ((q2.toUInt64 >>> ((2 : Int32) &&& 0x3f).toInt64.toUInt64).toInt64)) + ((p4.toInt64) * (1000000 : Int64))) + (((p5 &&& (2147483647 : Int32)) % (1000000 : Int32)).toInt64))), .second, .val (.ref b2), .val (.long (q3 + (own_fd ((((q1 + ((q2.toUInt64 >>> ((2 : Int32) &&& 0x3f).toInt64.toUInt64).toInt64)) + ((p4.toInt64) * (1000000 : Int64))) + (((p5 &&& (2147483647 : Int32)) % (1000000 : Int32)).toInt64)) - (q1 + ((((q1 + ((2 : Int64) * ((q2.toUInt64 >>> ((2 : Int32) &&& 0x3f).toInt64.toUInt64).toInt64))) + ((p6 &&& (1 : Int32)).toInt64)) - q1) / (2 : Int64)))) (1000000 : Int64)))), .second, .val (.long (q3 + (p4.toInt64))), .second] [(.int (1 : Int32))])) _
    refine XS.goto X21.here hx rfl (pc0 := 102) (pc' := 106) rfl (hb hby at_102) (by decide) (by decide) ?_
    show Steps p.tables e below (T21.setTop (mkF m 106 #[.val (.long q1), .second, .val (.long q2), .second, .val (.long q3), .second, .val (.int p4), .val (.int p5), .val (.int p6), .val (.long ((q2.toUInt64 >>> ((2 : Int32) &&& 0x3f).toInt64.toUInt64).toInt64)), .second, .val (.long ((p6 &&& (1 : Int32)).toInt64)), .second, .val (.long ((q1 + ((2 : Int64) * ((q2.toUInt64 >>> ((2 : Int32) &&& 0x3f).toInt64.toUInt64).toInt64))) + ((p6 &&& (1 : Int32)).toInt64))), .second, .val (.long (q1 + ((q2.toUInt64 >>> ((2 : Int32) &&& 0x3f).toInt64.toUInt64).toInt64))), .second, .val (.long (((p5 &&& (2147483647 : Int32)) % (1000000 : Int32)).toInt64)), .second, .val (.long (((q1 + ((q2.toUInt64 >>> ((2 : Int32) &&& 0x3f).toInt64.toUInt64).toInt64)) + ((p4.toInt64) * (1000000 : Int64))) + (((p5 &&& (2147483647 : Int32)) % (1000000 : Int32)).toInt64))), .second, .val (.ref b2), .val (.long (q3 + (own_fd ((((q1 + ((q2.toUInt64 >>> ((2 : Int32) &&& 0x3f).toInt64.toUInt64).toInt64)) + ((p4.toInt64) * (1000000 : Int64))) + (((p5 &&& (2147483647 : Int32)) % (1000000 : Int32)).toInt64)) - (q1 + ((((q1 + ((2 : Int64) * ((q2.toUInt64 >>> ((2 : Int32) &&& 0x3f).toInt64.toUInt64).toInt64))) + ((p6 &&& (1 : Int32)).toInt64)) - q1) / (2 : Int64)))) (1000000 : Int64)))), .second, .val (.long (q3 + (p4.toInt64))), .second] [(.int (1 : Int32))])) _
    exact kt
  obtain ⟨fs, hr, hrun, hended, hW, hsame⟩ := X21.leave (v := some (.int (1 : Int32))) (fun h => by rw [Bd.returns] at h; cases h)
  refine ⟨_, _, fin _ (pre22 _ ?_), hrun, hended, _, _, rfl, ?_, ⟨_, rfl⟩, hW, hsame.mono (by decide) (by decide)⟩
  · exact retN X21 hx (t := .boolean) Bd.returns (by simp) (hb hby at_106) hr
  · show Q0 Z q1 q2 q3 p4 p5 p6 h0 n0 _ T21.heap _
    rw [eq21]
    exact ⟨rfl, N21⟩

set_option maxRecDepth 65536 in
set_option maxHeartbeats 40000000 in
theorem comes_1 {Post : Tables → Env → Array Value → State → Outcome → State → Prop} (hpost : ∀ tb e args s v u, (limb_1_1.after args s (.returned v) u = true ∧ limb_1_2.after args s (.returned v) u = true ∧ True) → FrameEnd s (.returned v) u (Jvm.fieldLocs frame_1_writes args s ++ Jvm.arrayLocs frame_1_arrays args s ++ Jvm.staticLocs frame_1_statics s) 16 128 → Post tb e args s (.returned v) u) :
    ArmFor flags0 classFile x code maxLocals ret World_1 tables_1 room_1 Calls_1 rest_1 Pre_1 Post := by
  intro l hfl _ _ p e ha hc hk s m args below hf hA hF happ hP
  obtain ⟨hcalls, hrest, hpre⟩ := hP
  obtain ⟨-, -, -, hnamed, -, -, -, hat⟩ := (Spec.applies_iff hf).mp happ
  obtain ⟨hg, hn⟩ := and_e (Cond.before_iff.mp (show (Jvm.Cond.and given_1 narrow_1).before args s = true from hpre))
  obtain ⟨hcount, hg0⟩ := and_e hg
  obtain ⟨ga0, hg1⟩ := and_e hg0
  obtain ⟨ga1, hg2⟩ := and_e hg1
  obtain ⟨ga2, hg3⟩ := and_e hg2
  obtain ⟨ga3, hg4⟩ := and_e hg3
  obtain ⟨ga4, hg5⟩ := and_e hg4
  have ga5 := hg5
  obtain ⟨w0, w1, w2, w3, w4, w5, rfl⟩ : ∃ w0 w1 w2 w3 w4 w5 : Value, args = #[w0, w1, w2, w3, w4, w5] := by
    have hs : args.size = 6 := by simpa [Cond.value, given_1] using hcount
    obtain ⟨L⟩ := args
    match L, hs with
    | [w0, w1, w2, w3, w4, w5], _ => exact ⟨w0, w1, w2, w3, w4, w5, rfl⟩
  have hw := fun d (hd : d ∈ tables_1) => atoms_spec (ws := Jvm.Cond.code x code maxLocals ret :: tables_1) hat d (List.mem_cons_of_mem _ hd)
  have hfit : Fit s := fun {y c} hc i hi => by
    obtain ⟨ha, rfl⟩ := Array.getElem?_eq_some_iff.mp hc
    have q := List.all_eq_true.mp ((Array.all_eq_true_iff_forall_mem.mp hF) _ (Array.getElem_mem ha)) i (List.mem_range.mpr hi)
    simpa [Array.getElem?_eq_getElem hi] using q
  obtain ⟨i0, ei0⟩ := isL_v ga0
  obtain rfl : w0 = (.long i0) := Option.some.inj ei0
  obtain ⟨i1, ei1⟩ := isL_v ga1
  obtain rfl : w1 = (.long i1) := Option.some.inj ei1
  obtain ⟨i2, ei2⟩ := isL_v ga2
  obtain rfl : w2 = (.long i2) := Option.some.inj ei2
  obtain ⟨i3, ei3⟩ := is_v ga3
  obtain rfl : w3 = (.int i3) := Option.some.inj ei3
  obtain ⟨i4, ei4⟩ := is_v ga4
  obtain rfl : w4 = (.int i4) := Option.some.inj ei4
  obtain ⟨i5, ei5⟩ := is_v ga5
  obtain rfl : w5 = (.int i5) := Option.some.inj ei5
  obtain ⟨n, o, h1, h2, h3, _, L, rfl, ⟨rfl, N⟩, hq⟩ := rm0 l s _ hw tables_1 i0 i1 i2 i3 i4 i5 s.heap s.heap.size (Nat.le_refl _)  p e ha hc hk s m _ below hf ((Spec.applies_iff_loose hf).mp happ).1 ⟨rfl, State.Warmed39.refl s, rfl⟩ trivial
  refine ⟨n, _, h1, h2, h3, hpost _ _ _ _ _ _ ⟨Cond.after_iff.mpr rfl, Cond.after_iff.mpr (eq_i res_at (Term.int_eval (1)) rfl), trivial⟩ ⟨hq.1, hq.2.1, (hq.2.2.sift fun y hy => Or.inr (N y hy)).mono (by decide) (by decide)⟩⟩
theorem main_1_1 : Claimed_1_1 := comes_1 fun _ _ _ _ _ _ h hF => ⟨h.1, hF⟩
theorem main_1_2 : Claimed_1_2 := comes_1 fun _ _ _ _ _ _ h hF => ⟨h.2.1, hF⟩

end Jvm.Pilot.@@N@@
namespace Jvm.Pilot.@@N@@
open Jvm Jvm.ClassFile Sem Op Lib Jvm.Free Jvm.Stand Jvm.Pilot.@@N@@.Jvm.D
/-! MADE BY PROGRAM (witnessworld.py) out of the Statement's table words and the real class files: 12 classes; the members and pool entries that the words name. The judged class is class 1, her method 1. -/
namespace start1
open Jvm.ClassFile
def u (s : String) : CpInfo := .utf8 (stringToUtf16 s)
/-- a pool by its gaps: so many unusable entries, then the entry; so many at the end -/
def gap : Nat → List CpInfo → List CpInfo
  | 0, r => r
  | n + 1, r => .unusable :: gap n r
def poolList (es : List (Nat × CpInfo)) (last : Nat) : List CpInfo := es.foldr (fun e r => gap e.1 (e.2 :: r)) (gap last [])
def pool (es : List (Nat × CpInfo)) (last : Nat) : Array CpInfo := ⟨poolList es last⟩
def fileOf (pool : Array CpInfo) (this : Nat) (attrs : Array Attribute := #[]) (ms : Array MethodInfo := #[]) (fl : Nat := 33) (sup : Nat := 0) (ifs : Array Nat := #[]) (fds : Array FieldInfo := #[]) : ClassFile where
  minorVersion := 0
  majorVersion := 65
  constantPool := pool
  accessFlags := fl
  thisClass := this
  superClass := sup
  interfaces := ifs
  fields := fds
  methods := ms
  attributes := attrs
def plain (name : String) (sup : Option ClassId) : Class where
  name := name
  kind := .ordinary
  loader := none
  accessFlags := 33
  super := sup
  interfaces := #[]
  cf := none
  fields := #[]
  methods := #[]
  instanceTypes := #[]
  staticTypes := #[]
  resolved := #[]
  callSites := []
  init := .initialized
  statics := none
  mirror := none

def pool0 : Array CpInfo := pool [(5, u "<init>"), (0, u "()V"), (1, .class_ 10), (1, u "java/lang/Object")] 113

def k0c0 : Code := { maxStack := 0, maxLocals := 1, code := object_method_1_code, exceptionTable := #[], attributes := #[] }
def k0m0 : Method := { name := "<init>", desc := "()V", sig := { parameters := [], returnType := none }, accessFlags := 1, code := some k0c0 }
/-- java/lang/Object -/
def k0 : Class := { plain "java/lang/Object" none with
  accessFlags := 33
  interfaces := #[]
  cf := some (fileOf pool0 8 #[] #[{ accessFlags := 1, nameIndex := 5, descriptorIndex := 6, attributes := #[] }] 33 0 #[] #[])
  fields := #[]
  methods := #[k0m0]
  instanceTypes := #[]
  staticTypes := #[]
  resolved := Array.replicate 124 none
  statics := none }

def pool1 : Array CpInfo := pool [(2, .class_ 4), (0, .nameAndType 5 6), (0, u "java/lang/Object"), (0, u "<init>"), (0, u "()V"), (0, .long 2), (1, .integer 2147483647), (0, .integer 1000000), (0, .long 1000000), (1, .class_ 14), (0, u "com/example/backplane/backplane/ClusterClock"), (0, .methodref 13 3), (0, .methodref 13 17), (0, .nameAndType 18 19), (0, u "sample"), (0, u "(JJJ)V"), (0, .methodref 13 21), (0, .nameAndType 22 23), (0, u "at"), (0, u "(J)J"), (0, .class_ 25), (0, u "com/example/backplane/backplane/ClusterClockAtPinLaw"), (2, u "law"), (0, u "(JJJIII)Z")] 3

def k1m0 : Method := { name := "<init>", desc := "()V", sig := { parameters := [], returnType := none }, accessFlags := 1, code := none }
def k1c1 : Code := { maxStack := 7, maxLocals := 26, code := code, exceptionTable := #[], attributes := #[] }
def k1m1 : Method := { name := "law", desc := "(JJJIII)Z", sig := { parameters := [.long, .long, .long, .int, .int, .int], returnType := some .boolean }, accessFlags := 9, code := some k1c1 }
/-- com/example/backplane/backplane/ClusterClockAtPinLaw -/
def k1 : Class := { plain "com/example/backplane/backplane/ClusterClockAtPinLaw" (some 0) with
  accessFlags := 49
  interfaces := #[]
  cf := some (fileOf pool1 24 #[] #[{ accessFlags := 1, nameIndex := 5, descriptorIndex := 6, attributes := #[] }, { accessFlags := 9, nameIndex := 28, descriptorIndex := 29, attributes := #[] }] 49 2 #[] #[])
  fields := #[]
  methods := #[k1m0, k1m1]
  instanceTypes := #[]
  staticTypes := #[]
  resolved := Array.replicate 33 none
  statics := none }

def pool2 : Array CpInfo := pool [(1, .methodref 2 3), (0, .class_ 4), (0, .nameAndType 5 6), (0, u "java/lang/Object"), (0, u "<init>"), (0, u "()V"), (5, u "()J"), (6, .class_ 21), (1, u "com/example/backplane/backplane/ClusterClock"), (0, u "sample"), (0, u "(JJJ)V"), (0, .long 2), (1, .class_ 27), (0, u "com/example/backplane/backplane/ClusterClock$Sample"), (0, .methodref 26 29), (0, .nameAndType 5 23), (0, .fieldref 19 31), (0, .nameAndType 22 32), (0, u "Lcom/example/backplane/backplane/ClusterClock$Sample;"), (3, .methodref 26 37), (0, .nameAndType 38 12), (0, u "atNanos"), (3, u "(J)J"), (2, u "at"), (0, .methodref 26 47), (0, .nameAndType 48 12), (0, u "clusterMs"), (0, .long 1000000), (1, .methodref 52 53), (0, .class_ 54), (0, .nameAndType 55 56), (0, u "java/lang/Math"), (0, u "floorDiv"), (0, u "(JJ)J"), (0, u "DRIFT"), (0, u "D")] 14

def k2c0 : Code := { maxStack := 1, maxLocals := 1, code := prog_1_method_1_code, exceptionTable := #[], attributes := #[] }
def k2m0 : Method := { name := "<init>", desc := "()V", sig := { parameters := [], returnType := none }, accessFlags := 0, code := some k2c0 }
def k2c1 : Code := { maxStack := 8, maxLocals := 11, code := prog_1_method_3_code, exceptionTable := #[], attributes := #[] }
def k2m1 : Method := { name := "sample", desc := "(JJJ)V", sig := { parameters := [.long, .long, .long], returnType := none }, accessFlags := 0, code := some k2c1 }
def k2c2 : Code := { maxStack := 6, maxLocals := 4, code := prog_1_method_5_code, exceptionTable := #[], attributes := #[] }
def k2m2 : Method := { name := "at", desc := "(J)J", sig := { parameters := [.long], returnType := some .long }, accessFlags := 0, code := some k2c2 }
/-- com/example/backplane/backplane/ClusterClock -/
def k2 : Class := { plain "com/example/backplane/backplane/ClusterClock" (some 0) with
  accessFlags := 32
  interfaces := #[]
  cf := some (fileOf pool2 19 #[.nestMembers #[26]] #[{ accessFlags := 0, nameIndex := 5, descriptorIndex := 6, attributes := #[] }, { accessFlags := 0, nameIndex := 22, descriptorIndex := 23, attributes := #[] }, { accessFlags := 0, nameIndex := 45, descriptorIndex := 42, attributes := #[] }] 32 2 #[] #[{ accessFlags := 26, nameIndex := 57, descriptorIndex := 58, attributes := #[] }, { accessFlags := 66, nameIndex := 22, descriptorIndex := 32, attributes := #[] }])
  fields := #[{ name := "DRIFT", type := .double, accessFlags := 26, slot := 0, constantValue := 0 }, { name := "sample", type := (.object "com/example/backplane/backplane/ClusterClock$Sample"), accessFlags := 66, slot := 0, constantValue := 0 }]
  methods := #[k2m0, k2m1, k2m2]
  instanceTypes := #[(.object "com/example/backplane/backplane/ClusterClock$Sample")]
  staticTypes := #[.double]
  resolved := ((Array.replicate 73 none).setIfInBounds 26 (some (.cls 4))).setIfInBounds 28 (some (.method ⟨4, 0⟩))
  statics := none }

def pool3 : Array CpInfo := pool [(1, .methodref 2 3), (0, .class_ 4), (0, .nameAndType 5 6), (0, u "java/lang/Object"), (0, u "<init>"), (0, u "()V"), (0, .class_ 8), (0, u "java/lang/Record")] 13

def k3c0 : Code := { maxStack := 1, maxLocals := 1, code := jdk_30_method_1_code, exceptionTable := #[], attributes := #[] }
def k3m0 : Method := { name := "<init>", desc := "()V", sig := { parameters := [], returnType := none }, accessFlags := 4, code := some k3c0 }
/-- java/lang/Record -/
def k3 : Class := { plain "java/lang/Record" (some 0) with
  accessFlags := 1057
  interfaces := #[]
  cf := some (fileOf pool3 7 #[] #[{ accessFlags := 4, nameIndex := 5, descriptorIndex := 6, attributes := #[] }] 1057 2 #[] #[])
  fields := #[]
  methods := #[k3m0]
  instanceTypes := #[]
  staticTypes := #[]
  resolved := Array.replicate 22 none
  statics := none }

def pool4 : Array CpInfo := pool [(1, .class_ 2), (0, u "com/example/backplane/backplane/ClusterClock"), (0, .methodref 4 5), (0, .class_ 6), (0, .nameAndType 7 8), (0, u "java/lang/Record"), (0, u "<init>"), (0, u "()V"), (0, .fieldref 10 11), (0, .class_ 12), (0, .nameAndType 13 14), (0, u "com/example/backplane/backplane/ClusterClock$Sample"), (0, u "clusterMs"), (0, u "J"), (0, .fieldref 10 16), (0, .nameAndType 17 14), (0, u "atNanos"), (0, .fieldref 10 19), (0, .nameAndType 20 14), (0, u "errorNanos"), (14, u "(JJJ)V"), (8, u "()J")] 24

def k4c0 : Code := { maxStack := 3, maxLocals := 7, code := prog_2_method_1_code, exceptionTable := #[], attributes := #[] }
def k4m0 : Method := { name := "<init>", desc := "(JJJ)V", sig := { parameters := [.long, .long, .long], returnType := none }, accessFlags := 2, code := some k4c0 }
def k4c1 : Code := { maxStack := 2, maxLocals := 1, code := prog_2_method_6_code, exceptionTable := #[], attributes := #[] }
def k4m1 : Method := { name := "clusterMs", desc := "()J", sig := { parameters := [], returnType := some .long }, accessFlags := 1, code := some k4c1 }
def k4c2 : Code := { maxStack := 2, maxLocals := 1, code := prog_2_method_7_code, exceptionTable := #[], attributes := #[] }
def k4m2 : Method := { name := "atNanos", desc := "()J", sig := { parameters := [], returnType := some .long }, accessFlags := 1, code := some k4c2 }
/-- com/example/backplane/backplane/ClusterClock$Sample -/
def k4 : Class := { plain "com/example/backplane/backplane/ClusterClock$Sample" (some 3) with
  accessFlags := 48
  interfaces := #[]
  cf := some (fileOf pool4 10 #[.nestHost 1] #[{ accessFlags := 2, nameIndex := 7, descriptorIndex := 35, attributes := #[] }, { accessFlags := 1, nameIndex := 13, descriptorIndex := 44, attributes := #[] }, { accessFlags := 1, nameIndex := 17, descriptorIndex := 44, attributes := #[] }] 48 4 #[] #[{ accessFlags := 18, nameIndex := 13, descriptorIndex := 14, attributes := #[] }, { accessFlags := 18, nameIndex := 17, descriptorIndex := 14, attributes := #[] }, { accessFlags := 18, nameIndex := 20, descriptorIndex := 14, attributes := #[] }])
  fields := #[{ name := "clusterMs", type := .long, accessFlags := 18, slot := 0, constantValue := 0 }, { name := "atNanos", type := .long, accessFlags := 18, slot := 1, constantValue := 0 }, { name := "errorNanos", type := .long, accessFlags := 18, slot := 2, constantValue := 0 }]
  methods := #[k4m0, k4m1, k4m2]
  instanceTypes := #[.long, .long, .long]
  staticTypes := #[]
  resolved := Array.replicate 69 none
  statics := none }

def pool5 : Array CpInfo := pool [(1, .class_ 2), (0, u "java/lang/Math"), (1, .class_ 6), (1, u "java/lang/Object"), (0, u "<init>"), (0, u "()V"), (89, .class_ 100), (1, u "java/lang/Math$RandomNumberGeneratorHolder"), (20, u "(JJ)J"), (23, u "floorDiv"), (26, u "negativeZeroFloatBits"), (0, u "J"), (2, u "negativeZeroDoubleBits"), (68, u "$assertionsDisabled"), (0, u "Z"), (91, u "twoToTheDoubleScaleDown"), (0, u "D"), (4, u "twoToTheDoubleScaleUp"), (9, u "E"), (3, u "PI"), (2, u "TAU"), (2, u "DEGREES_TO_RADIANS"), (0, u "RADIANS_TO_DEGREES")] 94

def k5m0 : Method := { name := "<init>", desc := "()V", sig := { parameters := [], returnType := none }, accessFlags := 2, code := none }
def k5c1 : Code := { maxStack := 4, maxLocals := 6, code := jdk_29_method_49_code, exceptionTable := #[], attributes := #[] }
def k5m1 : Method := { name := "floorDiv", desc := "(JJ)J", sig := { parameters := [.long, .long], returnType := some .long }, accessFlags := 9, code := some k5c1 }
/-- java/lang/Math -/
def k5 : Class := { plain "java/lang/Math" (some 0) with
  accessFlags := 49
  interfaces := #[]
  cf := some (fileOf pool5 1 #[.nestMembers #[98]] #[{ accessFlags := 2, nameIndex := 7, descriptorIndex := 8, attributes := #[] }, { accessFlags := 9, nameIndex := 145, descriptorIndex := 121, attributes := #[] }] 49 4 #[] #[{ accessFlags := 25, nameIndex := 354, descriptorIndex := 339, attributes := #[] }, { accessFlags := 25, nameIndex := 358, descriptorIndex := 339, attributes := #[] }, { accessFlags := 25, nameIndex := 361, descriptorIndex := 339, attributes := #[] }, { accessFlags := 26, nameIndex := 364, descriptorIndex := 339, attributes := #[] }, { accessFlags := 26, nameIndex := 365, descriptorIndex := 339, attributes := #[] }, { accessFlags := 26, nameIndex := 172, descriptorIndex := 173, attributes := #[] }, { accessFlags := 26, nameIndex := 176, descriptorIndex := 173, attributes := #[] }, { accessFlags := 8, nameIndex := 344, descriptorIndex := 339, attributes := #[] }, { accessFlags := 8, nameIndex := 338, descriptorIndex := 339, attributes := #[] }, { accessFlags := 4120, nameIndex := 245, descriptorIndex := 246, attributes := #[] }])
  fields := #[{ name := "E", type := .double, accessFlags := 25, slot := 0, constantValue := 0 }, { name := "PI", type := .double, accessFlags := 25, slot := 1, constantValue := 0 }, { name := "TAU", type := .double, accessFlags := 25, slot := 2, constantValue := 0 }, { name := "DEGREES_TO_RADIANS", type := .double, accessFlags := 26, slot := 3, constantValue := 0 }, { name := "RADIANS_TO_DEGREES", type := .double, accessFlags := 26, slot := 4, constantValue := 0 }, { name := "negativeZeroFloatBits", type := .long, accessFlags := 26, slot := 5, constantValue := 0 }, { name := "negativeZeroDoubleBits", type := .long, accessFlags := 26, slot := 6, constantValue := 0 }, { name := "twoToTheDoubleScaleUp", type := .double, accessFlags := 8, slot := 7, constantValue := 0 }, { name := "twoToTheDoubleScaleDown", type := .double, accessFlags := 8, slot := 8, constantValue := 0 }, { name := "$assertionsDisabled", type := .boolean, accessFlags := 4120, slot := 9, constantValue := 0 }]
  methods := #[k5m0, k5m1]
  instanceTypes := #[]
  staticTypes := #[.double, .double, .double, .double, .double, .long, .long, .double, .double, .boolean]
  resolved := Array.replicate 460 none
  statics := none }

def pool6 : Array CpInfo := pool [(1, u "java/lang/Cloneable"), (0, .class_ 1), (0, u "java/lang/Object"), (0, .class_ 3)] 3

/-- java/lang/Cloneable -/
def k6 : Class := { plain "java/lang/Cloneable" (some 0) with
  accessFlags := 1537
  interfaces := #[]
  cf := some (fileOf pool6 2 #[] #[] 1537 4 #[] #[])
  fields := #[]
  methods := #[]
  instanceTypes := #[]
  staticTypes := #[]
  resolved := Array.replicate 8 none
  statics := none }

def pool7 : Array CpInfo := pool [(1, u "java/io/Serializable"), (0, .class_ 1), (0, u "java/lang/Object"), (0, .class_ 3)] 3

/-- java/io/Serializable -/
def k7 : Class := { plain "java/io/Serializable" (some 0) with
  accessFlags := 1537
  interfaces := #[]
  cf := some (fileOf pool7 2 #[] #[] 1537 4 #[] #[])
  fields := #[]
  methods := #[]
  instanceTypes := #[]
  staticTypes := #[]
  resolved := Array.replicate 8 none
  statics := none }

/-- the primitive byte -/
def k8 : Class := { plain "byte" none with kind := .primitive 'B', accessFlags := 0x411 }
/-- [B -/
def k9 : Class := { plain "[B" (some 0) with kind := .array 8 .byte, interfaces := #[6, 7], accessFlags := 1041 }

/-- the primitive int -/
def k10 : Class := { plain "int" none with kind := .primitive 'I', accessFlags := 0x411 }
/-- [I -/
def k11 : Class := { plain "[I" (some 0) with kind := .array 10 .int, interfaces := #[6, 7], accessFlags := 1041 }

def heap : Heap := #[]
def classes : Array Class := #[k0, k1, k2, k3, k4, k5, k6, k7, k8, k9, k10, k11]
def interned : List (Array UInt16 × Addr) := []
def slotsUsed : Nat := 0
def theMethod : MethodId := ⟨1, 1⟩
def args0 : Array Value := #[.long 5, .long 3, .long 4, .int 6, .int 7, .int 8]
def aboutOver (below : List Frame) : State where
  vm := { classes := classes, interned := interned.toArray }
  heap := heap
  slotsUsed := slotsUsed
  threads := #[{ frames := .invoking theMethod args0 :: below }]
def below0 : List Frame := [.native { method := ⟨0, 0⟩, args := #[] }]
def about1 : State := aboutOver below0
def p0 : Program := .bare "" "" ""
def e0 : Env := launch0.env 0 0 0
theorem w_frames : about1.frames = Frame.invoking theMethod args0 :: below0 := rfl
set_option maxRecDepth 65536 in
theorem w_args : argsFit about1.vm theMethod args0 = true := by decide +kernel
set_option maxRecDepth 65536 in
theorem w_heap : heapFits about1 = true := by decide +kernel
set_option maxRecDepth 65536 in
theorem w_runnable : about1.curStatus? = some .runnable := by decide +kernel
set_option maxRecDepth 65536 in
theorem w_alone : about1.alone = true := by decide +kernel
set_option maxRecDepth 65536 in
theorem w_named : about1.methodNamed? x = some theMethod := by decide +kernel
set_option maxRecDepth 65536 in
theorem w_hears : about1.hears theMethod below0 = true := by decide +kernel
set_option maxRecDepth 65536 in
theorem w_ripe : about1.ripe theMethod args0 below0 = true := by decide +kernel
theorem w_running : about1.status = .running := rfl
set_option maxRecDepth 65536 in
theorem w_room : about1.hasRoom e0.platform room_1 = true :=
  launch0.hasRoom_least _ room_1 (by decide +kernel) (by decide +kernel) (by decide +kernel) (by decide +kernel) (by decide +kernel) (by decide +kernel)
theorem allAtoms_all (ts : List Jvm.Cond) (a : Array Jvm.Value) (st : Jvm.State) : (allAtoms ts).before a st = ts.all (fun c => c.before a st) := by
  induction ts with
  | nil => rfl
  | cons c t ih =>
    show (Jvm.Cond.and c (allAtoms t)).before a st = _
    rw [Jvm.Cond.before_and, ih, List.all_cons]
def words1 : List Jvm.Cond := Jvm.Cond.code x code maxLocals ret :: tables_1
/-- a 'code' word, met by the world's own term for the bytes: nothing is compared byte by byte -/
theorem code_word {y : MethodName} {bytes : ByteArray} {mx : Nat} {rt : Option FieldType} {a : Array Value} {s : State} {m : MethodId} {meth : Method} {c : Code} (h1 : s.methodNamed? y = some m) (h2 : s.vm.method? m = some meth) (h3 : meth.code = some c) (h4 : c.code = bytes)
    (h5 : (c.maxLocals == mx && c.exceptionTable.isEmpty && decide (c.maxStack ≤ mostOperands) && decide (meth.sig.returnType = rt) && !meth.locks && decide (parseMethodDescriptor y.desc = some meth.sig)) = true) : (Jvm.Cond.code y bytes mx rt).before a s = true := by
  simp only [Bool.and_eq_true, beq_iff_eq, Bool.not_eq_true', decide_eq_true_eq] at h5
  obtain ⟨⟨⟨⟨⟨g1, g2⟩, g3⟩, g4⟩, g5⟩, g6⟩ := h5
  simp [Cond.before, Cond.holds, Cond.value, h1, h2, h3, h4, g1, g2, g3, g4, g5, g6]
def isCode : Jvm.Cond → Bool
  | .code _ _ _ _ => true
  | _ => false
theorem all_split {L : List Jvm.Cond} {P : Jvm.Cond → Bool} (h1 : L.all (fun c => isCode c || P c) = true) (h2 : ∀ c ∈ L.filter isCode, P c = true) : L.all P = true := by
  refine List.all_eq_true.mpr fun c hc => ?_
  have h := List.all_eq_true.mp h1 c hc
  rcases Bool.eq_false_or_eq_true (isCode c) with hi | hi
  · exact h2 c (List.mem_filter.mpr ⟨hc, hi⟩)
  · simpa [hi] using h
set_option maxRecDepth 65536 in
theorem w_c0 : (Jvm.Cond.code x code maxLocals ret).before args0 about1 = true := code_word (m := ⟨1, 1⟩) (meth := k1m1) (c := k1c1) (by decide +kernel) rfl rfl rfl (by decide +kernel)
set_option maxRecDepth 65536 in
theorem w_c1 : (Jvm.Cond.code ({ cls := "com/example/backplane/backplane/ClusterClock", name := "<init>", desc := "()V" } : Jvm.MethodName) prog_1_method_1_code (1 : Nat) (Option.none : Option Jvm.ClassFile.FieldType)).before args0 about1 = true := code_word (m := ⟨2, 0⟩) (meth := k2m0) (c := k2c0) (by decide +kernel) rfl rfl rfl (by decide +kernel)
set_option maxRecDepth 65536 in
theorem w_c2 : (Jvm.Cond.code ({ cls := "java/lang/Object", name := "<init>", desc := "()V" } : Jvm.MethodName) object_method_1_code (1 : Nat) (Option.none : Option Jvm.ClassFile.FieldType)).before args0 about1 = true := code_word (m := ⟨0, 0⟩) (meth := k0m0) (c := k0c0) (by decide +kernel) rfl rfl rfl (by decide +kernel)
set_option maxRecDepth 65536 in
theorem w_c3 : (Jvm.Cond.code ({ cls := "com/example/backplane/backplane/ClusterClock", name := "sample", desc := "(JJJ)V" } : Jvm.MethodName) prog_1_method_3_code (11 : Nat) (Option.none : Option Jvm.ClassFile.FieldType)).before args0 about1 = true := code_word (m := ⟨2, 1⟩) (meth := k2m1) (c := k2c1) (by decide +kernel) rfl rfl rfl (by decide +kernel)
set_option maxRecDepth 65536 in
theorem w_c4 : (Jvm.Cond.code ({ cls := "com/example/backplane/backplane/ClusterClock$Sample", name := "<init>", desc := "(JJJ)V" } : Jvm.MethodName) prog_2_method_1_code (7 : Nat) (Option.none : Option Jvm.ClassFile.FieldType)).before args0 about1 = true := code_word (m := ⟨4, 0⟩) (meth := k4m0) (c := k4c0) (by decide +kernel) rfl rfl rfl (by decide +kernel)
set_option maxRecDepth 65536 in
theorem w_c5 : (Jvm.Cond.code ({ cls := "java/lang/Record", name := "<init>", desc := "()V" } : Jvm.MethodName) jdk_30_method_1_code (1 : Nat) (Option.none : Option Jvm.ClassFile.FieldType)).before args0 about1 = true := code_word (m := ⟨3, 0⟩) (meth := k3m0) (c := k3c0) (by decide +kernel) rfl rfl rfl (by decide +kernel)
set_option maxRecDepth 65536 in
theorem w_c6 : (Jvm.Cond.code ({ cls := "com/example/backplane/backplane/ClusterClock", name := "at", desc := "(J)J" } : Jvm.MethodName) prog_1_method_5_code (4 : Nat) (Option.some Jvm.ClassFile.FieldType.long)).before args0 about1 = true := code_word (m := ⟨2, 2⟩) (meth := k2m2) (c := k2c2) (by decide +kernel) rfl rfl rfl (by decide +kernel)
set_option maxRecDepth 65536 in
theorem w_c7 : (Jvm.Cond.code ({ cls := "com/example/backplane/backplane/ClusterClock$Sample", name := "clusterMs", desc := "()J" } : Jvm.MethodName) prog_2_method_6_code (1 : Nat) (Option.some Jvm.ClassFile.FieldType.long)).before args0 about1 = true := code_word (m := ⟨4, 1⟩) (meth := k4m1) (c := k4c1) (by decide +kernel) rfl rfl rfl (by decide +kernel)
set_option maxRecDepth 65536 in
theorem w_c8 : (Jvm.Cond.code ({ cls := "com/example/backplane/backplane/ClusterClock$Sample", name := "atNanos", desc := "()J" } : Jvm.MethodName) prog_2_method_7_code (1 : Nat) (Option.some Jvm.ClassFile.FieldType.long)).before args0 about1 = true := code_word (m := ⟨4, 2⟩) (meth := k4m2) (c := k4c2) (by decide +kernel) rfl rfl rfl (by decide +kernel)
set_option maxRecDepth 65536 in
theorem w_c9 : (Jvm.Cond.code ({ cls := "java/lang/Math", name := "floorDiv", desc := "(JJ)J" } : Jvm.MethodName) jdk_29_method_49_code (6 : Nat) (Option.some Jvm.ClassFile.FieldType.long)).before args0 about1 = true := code_word (m := ⟨5, 1⟩) (meth := k5m1) (c := k5c1) (by decide +kernel) rfl rfl rfl (by decide +kernel)
def codes1 : List Jvm.Cond := [Jvm.Cond.code x code maxLocals ret, Jvm.Cond.code ({ cls := "com/example/backplane/backplane/ClusterClock", name := "<init>", desc := "()V" } : Jvm.MethodName) prog_1_method_1_code (1 : Nat) (Option.none : Option Jvm.ClassFile.FieldType), Jvm.Cond.code ({ cls := "java/lang/Object", name := "<init>", desc := "()V" } : Jvm.MethodName) object_method_1_code (1 : Nat) (Option.none : Option Jvm.ClassFile.FieldType), Jvm.Cond.code ({ cls := "com/example/backplane/backplane/ClusterClock", name := "sample", desc := "(JJJ)V" } : Jvm.MethodName) prog_1_method_3_code (11 : Nat) (Option.none : Option Jvm.ClassFile.FieldType), Jvm.Cond.code ({ cls := "com/example/backplane/backplane/ClusterClock$Sample", name := "<init>", desc := "(JJJ)V" } : Jvm.MethodName) prog_2_method_1_code (7 : Nat) (Option.none : Option Jvm.ClassFile.FieldType), Jvm.Cond.code ({ cls := "java/lang/Record", name := "<init>", desc := "()V" } : Jvm.MethodName) jdk_30_method_1_code (1 : Nat) (Option.none : Option Jvm.ClassFile.FieldType), Jvm.Cond.code ({ cls := "com/example/backplane/backplane/ClusterClock", name := "at", desc := "(J)J" } : Jvm.MethodName) prog_1_method_5_code (4 : Nat) (Option.some Jvm.ClassFile.FieldType.long), Jvm.Cond.code ({ cls := "com/example/backplane/backplane/ClusterClock$Sample", name := "clusterMs", desc := "()J" } : Jvm.MethodName) prog_2_method_6_code (1 : Nat) (Option.some Jvm.ClassFile.FieldType.long), Jvm.Cond.code ({ cls := "com/example/backplane/backplane/ClusterClock$Sample", name := "atNanos", desc := "()J" } : Jvm.MethodName) prog_2_method_7_code (1 : Nat) (Option.some Jvm.ClassFile.FieldType.long), Jvm.Cond.code ({ cls := "java/lang/Math", name := "floorDiv", desc := "(JJ)J" } : Jvm.MethodName) jdk_29_method_49_code (6 : Nat) (Option.some Jvm.ClassFile.FieldType.long)]
set_option maxRecDepth 65536 in
theorem codes_eq : words1.filter isCode = codes1 := rfl
theorem w_codes : ∀ c ∈ words1.filter isCode, c.before args0 about1 = true := by
  rw [codes_eq]
  intro c hc
  simp only [codes1, List.mem_cons, List.not_mem_nil, or_false] at hc
  rcases hc with rfl | rfl | rfl | rfl | rfl | rfl | rfl | rfl | rfl | rfl
  · exact w_c0
  · exact w_c1
  · exact w_c2
  · exact w_c3
  · exact w_c4
  · exact w_c5
  · exact w_c6
  · exact w_c7
  · exact w_c8
  · exact w_c9
set_option maxRecDepth 65536 in
theorem w_t1 : (words1.take 24).all (fun c => isCode c || c.before args0 about1) = true := by decide +kernel
set_option maxRecDepth 65536 in
theorem w_t2 : ((words1.drop 24).take 24).all (fun c => isCode c || c.before args0 about1) = true := by decide +kernel
set_option maxRecDepth 65536 in
theorem w_t3 : ((words1.drop 24).drop 24).all (fun c => isCode c || c.before args0 about1) = true := by decide +kernel
theorem w_tables : (allAtoms (Jvm.Cond.code x code maxLocals ret :: tables_1)).before args0 about1 = true := by
  rw [allAtoms_all]
  show words1.all (fun c => c.before args0 about1) = true
  refine all_split ?_ w_codes
  rw [← List.take_append_drop 24 words1, List.all_append, w_t1, ← List.take_append_drop 24 (words1.drop 24), List.all_append, w_t2, w_t3]
  rfl
set_option maxRecDepth 65536 in
theorem w_case : (Jvm.Cond.and given_1 narrow_1).before args0 about1 = true := by decide +kernel
theorem w_applies : (headSpec (Jvm.Cond.code x code maxLocals ret :: tables_1) room_1).applies x e0.platform about1 = true :=
  (Spec.applies_iff w_frames).mpr ⟨w_running, w_runnable, w_alone, w_named, w_hears, w_ripe, w_room, w_tables⟩
theorem atStart : AtStart classFile x code maxLocals ret World_1 tables_1 room_1 Calls_1 rest_1 Pre_1 launch0 p0 e0 about1 theMethod args0 below0 :=
  ⟨lists_1, trivial, launch0.admits_env _ _ _, launch0.least_env, fairChoices_fair.cas, fairChoices_fair.clock, w_frames, w_args, w_heap, w_applies, trivial, trivial, w_case⟩
end start1
theorem witness_1 : WitnessClaimed_1 := ⟨start1.p0, start1.e0, start1.about1, start1.theMethod, start1.args0, start1.below0, start1.atStart⟩
end Jvm.Pilot.@@N@@
