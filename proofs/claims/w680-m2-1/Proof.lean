import JvmDerived
import JvmDerived.Pilot.@@N@@Statement
import JvmDerived.Pilot.@@N@@Code
set_option linter.unusedVariables false
set_option linter.unusedSimpArgs false
namespace Jvm.RoadKit
open Sem ClassFile Op Lib Jvm.Stand Jvm.Free Jvm.LawKit
section OwnKit
variable {p : Program} {l : Launch} {e : Env} {R : Room} {s : State} {m : MethodId} {args : Array Value} {below : List Frame} {meth : Method} {c : Code} {T : State} {locs : List Loc} {cells slots : Nat} {Q : Option Value → Heap → List Loc → Prop} {rc rs : Nat}
theorem retI (X : Stand p l e R s m args below meth c T locs cells slots) (hx : p.tables.exec = Jvm.exec) {pc : Nat} {Ls : Array Slot} {z : Int32} {rest : List Value} (hret : meth.sig.returnType = some .int) (hd : decode c.code pc = .ok (.ireturn, 1)) {fs : List Frame}
    (hl : ∀ (f : JFrame) (acts : List Action), f.method = m → f.locked = none → f.entered = [] → (doReturn e (T.setTop f) acts (some (.int z))).1 = T.setFrames fs) : Steps p.tables e below (T.setTop (mkF m pc Ls (.int z :: rest))) (T.setFrames fs) := by
  have hm' : T.vm.method? m = some meth := X.method'
  have hn : narrow .int (.int z) = .int z := rfl
  show Steps p.tables e below (T.setTop { method := m, pc := pc, locals := Ls, stack := _ :: rest, locked := none }) _
  jvm_step X.here [X.here.top, hx, hd, hm', hret, hn]
  first | (intro acts; rw [hl _ acts rfl rfl rfl]) | rw [hl _ _ rfl rfl rfl]
  exact Steps.refl _
theorem own_retA (X : Stand p l e R s m args below meth c T locs cells slots) (hx : p.tables.exec = Jvm.exec) {pc : Nat} {Ls : Array Slot} {w : Value} {ty : FieldType} {rest : List Value} (hw : w.isRef = true) (hty : ty.isReference = true) (hret : meth.sig.returnType = some ty) (hd : decode c.code pc = .ok (.areturn, 1)) {fs : List Frame}
    (hl : ∀ (f : JFrame) (acts : List Action), f.method = m → f.locked = none → f.entered = [] → (doReturn e (T.setTop f) acts (some w)).1 = T.setFrames fs) : Steps p.tables e below (T.setTop (mkF m pc Ls (w :: rest))) (T.setFrames fs) := by
  have hm' : T.vm.method? m = some meth := X.method'
  show Steps p.tables e below (T.setTop { method := m, pc := pc, locals := Ls, stack := _ :: rest, locked := none }) _
  jvm_step X.here [X.here.top, hx, hd, hm', hret, hw, hty]
  first | (intro acts; rw [hl _ acts rfl rfl rfl]) | rw [hl _ _ rfl rfl rfl]
  exact Steps.refl _
theorem own_retL (X : Stand p l e R s m args below meth c T locs cells slots) (hx : p.tables.exec = Jvm.exec) {pc : Nat} {Ls : Array Slot} {z : Int64} {rest : List Value} (hret : meth.sig.returnType = some .long) (hd : decode c.code pc = .ok (.lreturn, 1)) {fs : List Frame}
    (hl : ∀ (f : JFrame) (acts : List Action), f.method = m → f.locked = none → f.entered = [] → (doReturn e (T.setTop f) acts (some (.long z))).1 = T.setFrames fs) : Steps p.tables e below (T.setTop (mkF m pc Ls (.long z :: rest))) (T.setFrames fs) := by
  have hm' : T.vm.method? m = some meth := X.method'
  show Steps p.tables e below (T.setTop { method := m, pc := pc, locals := Ls, stack := _ :: rest, locked := none }) _
  jvm_step X.here [X.here.top, hx, hd, hm', hret]
  first | (intro acts; rw [hl _ acts rfl rfl rfl]) | rw [hl _ _ rfl rfl rfl]
  exact Steps.refl _
theorem own_retDbl (X : Stand p l e R s m args below meth c T locs cells slots) (hx : p.tables.exec = Jvm.exec) {pc : Nat} {Ls : Array Slot} {z : UInt64} {rest : List Value} (hret : meth.sig.returnType = some .double) (hd : decode c.code pc = .ok (.dreturn, 1)) {fs : List Frame}
    (hl : ∀ (f : JFrame) (acts : List Action), f.method = m → f.locked = none → f.entered = [] → (doReturn e (T.setTop f) acts (some (.double z))).1 = T.setFrames fs) : Steps p.tables e below (T.setTop (mkF m pc Ls (.double z :: rest))) (T.setFrames fs) := by
  have hm' : T.vm.method? m = some meth := X.method'
  show Steps p.tables e below (T.setTop { method := m, pc := pc, locals := Ls, stack := _ :: rest, locked := none }) _
  jvm_step X.here [X.here.top, hx, hd, hm', hret]
  first | (intro acts; rw [hl _ acts rfl rfl rfl]) | rw [hl _ _ rfl rfl rfl]
  exact Steps.refl _
/-- what is left to be shown from the state A on: the run comes back, and Q holds of what it leaves -/
def OwnG (p : Program) (e : Env) (below : List Frame) (s : State) (Q : Option Value → Heap → List Loc → Prop) (rc rs : Nat) (A : State) : Prop :=
  ∃ s₂ o, Steps p.tables e below A s₂ ∧ s₂.status = .running ∧ Ended s₂ below o ∧ ∃ v L, o = .returned v ∧ Q v s₂.heap L ∧ FrameEnd s o s₂ L rc rs
theorem own_by {A B : State} (k : ∀ t, Steps p.tables e below B t → Steps p.tables e below A t) (h : OwnG p e below s Q rc rs B) : OwnG p e below s Q rc rs A := by
  obtain ⟨s₂, o, h1, r⟩ := h
  exact ⟨s₂, o, k _ h1, r⟩
theorem own_out (X : Stand p l e R s m args below meth c T locs cells slots) {v : Option Value} (hv : meth.sig.returnType = none → v = none) (hlk : meth.locks = false) {A : State}
    (k : ∀ fs, (∀ (f : JFrame) (acts : List Action), f.method = m → f.locked = none → f.entered = [] → (doReturn e (T.setTop f) acts v).1 = T.setFrames fs) → Steps p.tables e below A (T.setFrames fs)) (hQ : Q v T.heap locs) (hc : cells ≤ rc) (hs : slots ≤ rs) : OwnG p e below s Q rc rs A := by
  obtain ⟨fs, hr, hrun, hended, hW, hsame⟩ := X.leave (v := v) hv hlk
  exact ⟨_, _, k fs hr, hrun, hended, _, _, rfl, hQ, ⟨_, rfl⟩, hW, hsame.mono hc hs⟩
theorem own_outI (X : Stand p l e R s m args below meth c T locs cells slots) (hx : p.tables.exec = Jvm.exec) {pc : Nat} {Ls : Array Slot} {z : Int32} {rest : List Value} (hret : meth.sig.returnType = some .int) (hlk : meth.locks = false) (hd : decode c.code pc = .ok (.ireturn, 1)) (hQ : Q (some (.int z)) T.heap locs) (hc : cells ≤ rc) (hs : slots ≤ rs) :
    OwnG p e below s Q rc rs (T.setTop (mkF m pc Ls (.int z :: rest))) :=
  own_out X (v := some (.int z)) (fun h => by rw [hret] at h; cases h) hlk (fun fs hr => retI X hx hret hd hr) hQ hc hs
theorem own_outA (X : Stand p l e R s m args below meth c T locs cells slots) (hx : p.tables.exec = Jvm.exec) {pc : Nat} {Ls : Array Slot} {w : Value} {ty : FieldType} {rest : List Value} (hw : w.isRef = true) (hty : ty.isReference = true) (hret : meth.sig.returnType = some ty) (hlk : meth.locks = false) (hd : decode c.code pc = .ok (.areturn, 1)) (hQ : Q (some w) T.heap locs) (hc : cells ≤ rc) (hs : slots ≤ rs) :
    OwnG p e below s Q rc rs (T.setTop (mkF m pc Ls (w :: rest))) :=
  own_out X (v := some w) (fun h => by rw [hret] at h; cases h) hlk (fun fs hr => own_retA X hx hw hty hret hd hr) hQ hc hs
theorem own_outL (X : Stand p l e R s m args below meth c T locs cells slots) (hx : p.tables.exec = Jvm.exec) {pc : Nat} {Ls : Array Slot} {z : Int64} {rest : List Value} (hret : meth.sig.returnType = some .long) (hlk : meth.locks = false) (hd : decode c.code pc = .ok (.lreturn, 1)) (hQ : Q (some (.long z)) T.heap locs) (hc : cells ≤ rc) (hs : slots ≤ rs) :
    OwnG p e below s Q rc rs (T.setTop (mkF m pc Ls (.long z :: rest))) :=
  own_out X (v := some (.long z)) (fun h => by rw [hret] at h; cases h) hlk (fun fs hr => own_retL X hx hret hd hr) hQ hc hs
theorem own_outD (X : Stand p l e R s m args below meth c T locs cells slots) (hx : p.tables.exec = Jvm.exec) {pc : Nat} {Ls : Array Slot} {z : UInt64} {rest : List Value} (hret : meth.sig.returnType = some .double) (hlk : meth.locks = false) (hd : decode c.code pc = .ok (.dreturn, 1)) (hQ : Q (some (.double z)) T.heap locs) (hc : cells ≤ rc) (hs : slots ≤ rs) :
    OwnG p e below s Q rc rs (T.setTop (mkF m pc Ls (.double z :: rest))) :=
  own_out X (v := some (.double z)) (fun h => by rw [hret] at h; cases h) hlk (fun fs hr => own_retDbl X hx hret hd hr) hQ hc hs
theorem own_outV (X : Stand p l e R s m args below meth c T locs cells slots) (hx : p.tables.exec = Jvm.exec) {pc : Nat} {Ls : Array Slot} (hret : meth.sig.returnType = none) (hlk : meth.locks = false) (hd : decode c.code pc = .ok (.return_, 1)) (hQ : Q none T.heap locs) (hc : cells ≤ rc) (hs : slots ≤ rs) :
    OwnG p e below s Q rc rs (T.setTop (mkF m pc Ls [])) :=
  own_out X (v := none) (fun _ => rfl) hlk (fun fs hr => X.returnOut hx hret hd hr) hQ hc hs
theorem own_outN (X : Stand p l e R s m args below meth c T locs cells slots) (hx : p.tables.exec = Jvm.exec) {pc : Nat} {Ls : Array Slot} {z z' : Int32} {t : FieldType} {rest : List Value} (hret : meth.sig.returnType = some t) (ht : t = .boolean ∨ t = .byte ∨ t = .char ∨ t = .short) (hlk : meth.locks = false) (hd : decode c.code pc = .ok (.ireturn, 1)) (hz : nar t z = z') (hQ : Q (some (.int z')) T.heap locs) (hc : cells ≤ rc) (hs : slots ≤ rs) :
    OwnG p e below s Q rc rs (T.setTop (mkF m pc Ls (.int z :: rest))) := by
  subst hz
  exact own_out X (v := some (.int (nar t z))) (fun h => by rw [hret] at h; cases h) hlk (fun fs hr => retN X hx (t := t) hret (by rcases ht with rfl | rfl | rfl | rfl <;> simp) hd hr) hQ hc hs
theorem own_met {y : MethodName} {bytes : ByteArray} {maxL : Nat} {ret : Option FieldType} {rm : Room} {ws : List Cond} {as' : Array Value} {Z : State} {h0 : Heap} (hpl : plainFor y = true)
    (body : ∀ (p : Program) (e : Env) (s : State) (m : MethodId) (below : List Frame) (meth : Method) (c : Code) (s₁ : State), p.tables.exec = Jvm.exec → c.code = bytes → c.maxLocals = maxL → meth.sig.returnType = ret → meth.locks = false → s.vm.findClass y.cls = some m.cls → meth.name = y.name → Z.Warmed39 s.vm →
      Stand p l e rm s m as' below meth c s₁ [] 0 0 → s₁.heap = h0 → OwnG p e below s Q rm.cells rm.slots (s₁.setTop (entryFrame m as' maxL))) :
    MetFree l y (head1 (Cond.code y bytes maxL ret :: ws) rm) (fun a U => a = as' ∧ Z.Warmed39 U.vm ∧ U.heap = h0) (fun _ _ _ _ _ => True) (fun _ U o U' => ∃ v L, o = .returned v ∧ Q v U'.heap L ∧ FrameEnd U o U' L rm.cells rm.slots) := by
  refine MetFree.of_bodySF hpl hisR ?_
  intro p e s m args below meth c s₁ Bd hml0 hP hK
  obtain ⟨rfl, hZ, hh⟩ := hP
  have e0 : s₁.heap = h0 := by rw [← hh, Bd.state]; rfl
  exact body p e s m below meth c s₁ Bd.exec Bd.bytes hml0 Bd.returns Bd.notSynchronized (findClass_of_methodNamed Bd.named) (name_of_methodNamed Bd.named Bd.method).1 hZ (Stand.of_body Bd) e0
theorem own_selp {Z s : State} {a0 args : Array Value} {y : MethodName} {n : Nat} (hZ : Z.Warmed39 s.vm) (wi : (Cond.instantiable y.cls n).before a0 Z = true) (wp : (Cond.privateMethod y).before a0 Z = true) (wm : (Cond.instanceMethod y).before a0 Z = true) (hy : y.cls ≠ "java/lang/invoke/MethodHandle" ∧ y.cls ≠ "java/lang/invoke/VarHandle") : (Cond.selects y.cls y y).before args s = true := by
  obtain ⟨c, k, h1, h2, -, h4, -⟩ := Cond.instantiable_spec (mv (args := args) hZ wi)
  exact selects_self_of_private h1 h2 (Bool.or_eq_false_iff.mp h4).1 (Cond.privateMethod_at (mvP hZ wp (args := #[]))) (mvT hZ wm) hy
end OwnKit
end Jvm.RoadKit
namespace Jvm.Pilot.@@N@@
open Jvm Jvm.ClassFile Sem Op Lib Jvm.Free Jvm.Stand Jvm.LawKit Jvm.RoadKit Bundle Jvm.Pilot.@@N@@.Jvm.D
theorem d1_0 : decode prog_9_method_4_code 0 = .ok (.aload_n 0, 1) := by decide +kernel
theorem d1_1 : decode prog_9_method_4_code 1 = .ok (.getstatic 3, 3) := by decide +kernel
theorem d1_4 : decode prog_9_method_4_code 4 = .ok (.if_acmp .ne 9, 3) := by decide +kernel
theorem d1_7 : decode prog_9_method_4_code 7 = .ok (.getstatic 7, 3) := by decide +kernel
theorem d1_10 : decode prog_9_method_4_code 10 = .ok (.goto 6, 3) := by decide +kernel
theorem d1_13 : decode prog_9_method_4_code 13 = .ok (.getstatic 3, 3) := by decide +kernel
theorem d1_16 : decode prog_9_method_4_code 16 = .ok (.areturn, 1) := by decide +kernel
theorem pn_0 : plainName "com/example/gasholder/gasholder/Flow" = true := by first | (simp [plainName, overriddenIn]; done) | decide +kernel
theorem ef_1 (m : MethodId) (x0 : Addr) : entryFrame m #[(.ref x0)] 1 = mkF m 0 #[.val (.ref x0)] [] := by first | (simp [entryFrame, mkF, argsToLocals, Value.category]; done) | rfl
def Q1 (Z : State) (rr fi fw : Addr) (h0 : Heap) (n0 : Nat) (v : Option Value) (h : Heap) (L : List Loc) : Prop := (∃ o, v = some (.ref o) ∧ o = (if rr = fi then fw else fi)) ∧ Fr n0 L ∧ h = h0
set_option maxRecDepth 65536 in
set_option maxHeartbeats 40000000 in
theorem rm1 (l : Launch) (Z : State) (a0 : Array Value) (hw : ∀ d ∈ tables_1, d.before a0 Z = true) (ws : List Jvm.Cond) (rr fi fw : Addr) (h0 : Heap) (n0 : Nat) (Z0 : n0 ≤ h0.size) (SI : Sta Z h0 "com/example/gasholder/gasholder/Flow" "INJECTION" "Lcom/example/gasholder/gasholder/Flow;" (.ref fi)) (SW : Sta Z h0 "com/example/gasholder/gasholder/Flow" "WITHDRAWAL" "Lcom/example/gasholder/gasholder/Flow;" (.ref fw)) :
    MetFree l (⟨"com/example/gasholder/gasholder/Flow", "opposite", "()Lcom/example/gasholder/gasholder/Flow;"⟩ : MethodName) (head1 (Jvm.Cond.code (⟨"com/example/gasholder/gasholder/Flow", "opposite", "()Lcom/example/gasholder/gasholder/Flow;"⟩ : MethodName) prog_9_method_4_code 1 (some (.object "com/example/gasholder/gasholder/Flow")) :: ws) ({ frames := 0, cells := 0, slots := 0, locals := 0 } : Room)) (fun a U => a = #[(.ref rr)] ∧ Z.Warmed39 U.vm ∧ U.heap = h0) (fun _ _ _ _ _ => True) (fun _ U o U' => ∃ v L, o = .returned v ∧ Q1 Z rr fi fw h0 n0 v U'.heap L ∧ FrameEnd U o U' L ({ frames := 0, cells := 0, slots := 0, locals := 0 } : Room).cells ({ frames := 0, cells := 0, slots := 0, locals := 0 } : Room).slots) := by
  refine own_met (Q := fun v h L => Q1 Z rr fi fw h0 n0 v h L) (plainFor_of_name pn_0) ?_
  intro p e s m below meth c s₁ hx hby hml hret hlk hown hnm hZ X0 e0
  have N0 := Fr.nil n0
  rw [ef_1 m rr]
  show OwnG p e below s _ _ _ (s₁.setTop (mkF m 0 #[.val (.ref rr)] []))
  refine own_by (fun t kk_ => XS.aloadN X0.here hx rfl (hb hby d1_0) rfl rfl kk_) ?_
  show OwnG p e below s _ _ _ (s₁.setTop (mkF m 1 #[.val (.ref rr)] [(.ref rr)]))
  obtain ⟨T1, X1, e1, st1⟩ := getS2 X0 hx hZ hown (host := "") (Or.inl (hw _ (List.mem_of_getElem? (i := 8) rfl))) Via.refl e0 SI (g := (mkF m 1 #[.val (.ref rr)] [(.ref rr)])) rfl (hb hby d1_1)
  refine own_by (fun t kk_ => st1 _ kk_) ?_
  show OwnG p e below s _ _ _ (T1.setTop (mkF m 4 #[.val (.ref rr)] [(.ref fi), (.ref rr)]))
  by_cases ha4_2 : rr = fi
  · refine own_by (fun t kk_ => Jvm.RoadKit.acmp (g := (mkF m 4 #[.val (.ref rr)] [(.ref fi), (.ref rr)])) X1 hx rfl rfl rfl (pc0 := 4) (pc' := 7) (same := true) rfl (hb hby d1_4) rfl (decide_eq_true (congrArg Value.ref ha4_2)) (by decide) (by decide) kk_) ?_
    show OwnG p e below s _ _ _ (T1.setTop (mkF m 7 #[.val (.ref rr)] []))
    obtain ⟨T3, X3, e3, st3⟩ := getS2 X1 hx hZ hown (host := "") (Or.inl (hw _ (List.mem_of_getElem? (i := 9) rfl))) Via.refl e1 SW (g := (mkF m 7 #[.val (.ref rr)] [])) rfl (hb hby d1_7)
    refine own_by (fun t kk_ => st3 _ kk_) ?_
    show OwnG p e below s _ _ _ (T3.setTop (mkF m 10 #[.val (.ref rr)] [(.ref fw)]))
    refine own_by (fun t kk_ => XS.goto X3.here hx rfl (pc0 := 10) (pc' := 16) rfl (hb hby d1_10) (by decide) (by decide) kk_) ?_
    show OwnG p e below s _ _ _ (T3.setTop (mkF m 16 #[.val (.ref rr)] [(.ref fw)]))
    exact own_outA X3 hx rfl rfl hret hlk (hb hby d1_16) (⟨⟨_, rfl, by simp [ha4_2]⟩, N0, e3⟩) (by decide) (by decide)
  · refine own_by (fun t kk_ => Jvm.RoadKit.acmp (g := (mkF m 4 #[.val (.ref rr)] [(.ref fi), (.ref rr)])) X1 hx rfl rfl rfl (pc0 := 4) (pc' := 13) (same := false) rfl (hb hby d1_4) rfl (decide_eq_false fun q => ha4_2 (Value.ref.inj q)) (by decide) (by decide) kk_) ?_
    show OwnG p e below s _ _ _ (T1.setTop (mkF m 13 #[.val (.ref rr)] []))
    obtain ⟨T4, X4, e4, st4⟩ := getS2 X1 hx hZ hown (host := "") (Or.inl (hw _ (List.mem_of_getElem? (i := 8) rfl))) Via.refl e1 SI (g := (mkF m 13 #[.val (.ref rr)] [])) rfl (hb hby d1_13)
    refine own_by (fun t kk_ => st4 _ kk_) ?_
    show OwnG p e below s _ _ _ (T4.setTop (mkF m 16 #[.val (.ref rr)] [(.ref fi)]))
    exact own_outA X4 hx rfl rfl hret hlk (hb hby d1_16) (⟨⟨_, rfl, by simp [ha4_2]⟩, N0, e4⟩) (by decide) (by decide)
theorem pn_1 : plainName "com/example/gasholder/gasholder/FlowOppositePinLaw" = true := by first | (simp [plainName, overriddenIn]; done) | decide +kernel
theorem pd_0 : parseMethodDescriptor "()Lcom/example/gasholder/gasholder/Flow;" = some ⟨[], some (.object "com/example/gasholder/gasholder/Flow")⟩ := by decide +kernel
theorem ef_0 (m : MethodId) (x0 : Int32) : entryFrame m #[(.int x0)] maxLocals = mkF m 0 #[.val (.int x0), .unset, .unset] [] := by first | (simp [entryFrame, mkF, argsToLocals, Value.category, maxLocals]; done) | rfl
def Q0 (Z : State) (p1 : Int32) (fi fw : Addr) (h0 : Heap) (n0 : Nat) (v : Option Value) (h : Heap) (L : List Loc) : Prop := v = some (.int (1 : Int32)) ∧ Fr n0 L
set_option maxRecDepth 65536 in
set_option maxHeartbeats 40000000 in
theorem rm0 (l : Launch) (Z : State) (a0 : Array Value) (hw : ∀ d ∈ tables_1, d.before a0 Z = true) (ws : List Jvm.Cond) (p1 : Int32) (fi fw : Addr) (h0 : Heap) (n0 : Nat) (Z0 : n0 ≤ h0.size) (SI : Sta Z h0 "com/example/gasholder/gasholder/Flow" "INJECTION" "Lcom/example/gasholder/gasholder/Flow;" (.ref fi)) (SW : Sta Z h0 "com/example/gasholder/gasholder/Flow" "WITHDRAWAL" "Lcom/example/gasholder/gasholder/Flow;" (.ref fw)) (EI : Exa Z h0 fi "com/example/gasholder/gasholder/Flow") (EW : Exa Z h0 fw "com/example/gasholder/gasholder/Flow") (hne : fi ≠ fw) :
    MetFree l x (head1 (Jvm.Cond.code x code maxLocals ret :: ws) room_1) (fun a U => a = #[(.int p1)] ∧ Z.Warmed39 U.vm ∧ U.heap = h0) (fun _ _ _ _ _ => True) (fun _ U o U' => ∃ v L, o = .returned v ∧ Q0 Z p1 fi fw h0 n0 v U'.heap L ∧ FrameEnd U o U' L room_1.cells room_1.slots) := by
  refine own_met (Q := fun v h L => Q0 Z p1 fi fw h0 n0 v h L) (plainFor_of_name pn_1) ?_
  intro p e s m below meth c s₁ hx hby hml hret hlk hown hnm hZ X0 e0
  have N0 := Fr.nil n0
  rw [ef_0 m p1]
  show OwnG p e below s _ _ _ (s₁.setTop (mkF m 0 #[.val (.int p1), .unset, .unset] []))
  refine own_by (fun t kk_ => XS.iloadN X0.here hx rfl (hb hby at_0) rfl  kk_) ?_
  show OwnG p e below s _ _ _ (s₁.setTop (mkF m 1 #[.val (.int p1), .unset, .unset] [(.int p1)]))
  refine own_by (fun t kk_ => XS.iconst X0.here hx rfl (hb hby at_1) kk_) ?_
  show OwnG p e below s _ _ _ (s₁.setTop (mkF m 2 #[.val (.int p1), .unset, .unset] [(.int (1 : Int32)), (.int p1)]))
  refine own_by (fun t kk_ => XS.iand X0.here hx rfl (hb hby at_2) rfl kk_) ?_
  show OwnG p e below s _ _ _ (s₁.setTop (mkF m 3 #[.val (.int p1), .unset, .unset] [(.int (p1 &&& (1 : Int32)))]))
  by_cases hb3_1 : (p1 &&& (1 : Int32)) = (0 : Int32)
  · refine own_by (fun t kk_ => XS.ifNo X0.here hx rfl (hb hby at_3) rfl ((if0 _ _).trans (teq hb3_1).2) kk_) ?_
    show OwnG p e below s _ _ _ (s₁.setTop (mkF m 6 #[.val (.int p1), .unset, .unset] []))
    obtain ⟨T2, X2, e2, st2⟩ := getS2 X0 hx hZ hown (host := "") (Or.inl (hw _ (List.mem_of_getElem? (i := 0) rfl))) Via.refl e0 SI (g := (mkF m 6 #[.val (.int p1), .unset, .unset] [])) rfl (hb hby at_6)
    refine own_by (fun t kk_ => st2 _ kk_) ?_
    show OwnG p e below s _ _ _ (T2.setTop (mkF m 9 #[.val (.int p1), .unset, .unset] [(.ref fi)]))
    refine own_by (fun t kk_ => XS.goto X2.here hx rfl (pc0 := 9) (pc' := 15) rfl (hb hby at_9) (by decide) (by decide) kk_) ?_
    show OwnG p e below s _ _ _ (T2.setTop (mkF m 15 #[.val (.int p1), .unset, .unset] [(.ref fi)]))
    refine own_by (fun t kk_ => XS.astoreN X2.here hx rfl (hb hby at_15) rfl rfl (l' := #[.val (.int p1), .val (.ref fi), .unset]) rfl kk_) ?_
    show OwnG p e below s _ _ _ (T2.setTop (mkF m 16 #[.val (.int p1), .val (.ref fi), .unset] []))
    refine own_by (fun t kk_ => XS.aloadN X2.here hx rfl (hb hby at_16) rfl rfl kk_) ?_
    show OwnG p e below s _ _ _ (T2.setTop (mkF m 17 #[.val (.int p1), .val (.ref fi), .unset] [(.ref fi)]))
    obtain ⟨cq3, kq3, q3a, q3b, q3c⟩ := isOf hZ e2 EI
    obtain ⟨_, _, ⟨T3, L3, k3, n3⟩, -, X3, ⟨Lc3, hQ3, l3, y3, z3⟩, st3⟩ := X2.virtualBack hx (y := (⟨"com/example/gasholder/gasholder/Flow", "opposite", "()Lcom/example/gasholder/gasholder/Flow;"⟩ : MethodName)) (z := (⟨"com/example/gasholder/gasholder/Flow", "opposite", "()Lcom/example/gasholder/gasholder/Flow;"⟩ : MethodName)) hown (mvT hZ (hw _ (List.mem_of_getElem? (i := 3) rfl))) (mvT hZ (hw _ (List.mem_of_getElem? (i := 4) rfl))) (notFace_of_selects (args := #[]) (mvT hZ (hw _ (List.mem_of_getElem? (i := 6) rfl)))) (mvT hZ (hw _ (List.mem_of_getElem? (i := 6) rfl))) (mvT hZ (hw _ (List.mem_of_getElem? (i := 5) rfl))) (by decide) (backOf (W := 0) (rm1 l Z a0 hw [] fi fi fw h0 n0 Z0 SI SW) hZ (hw _ (List.mem_of_getElem? (i := 7) rfl)) (hw _ (List.mem_of_getElem? (i := 1) rfl)) (by decide) (by decide)) q3a q3c (g := (mkF m 17 #[.val (.int p1), .val (.ref fi), .unset] [(.ref fi)])) rfl (by rw [hml]; rfl) (Steps.refl _) (argsL := []) (rest := []) (lenOf pd_0 rfl) rfl (by show 2 * 0 + _ ≤ _; exact Nat.le_of_eq rfl) (hb hby at_17) (fun _ _ => ⟨rfl, e2, (by decide : 0 + 0 ≤ _), (by decide : 0 + 0 ≤ _)⟩)
    dsimp only [Pt.U, Pt.locs, Pt.cells, Pt.slots] at X3 l3 y3 z3 st3 hQ3
    subst l3 y3 z3
    refine own_by (fun t kk_ => st3.trans kk_) ?_
    obtain ⟨⟨o3, rfl, ho3⟩, N3q, hh3⟩ := hQ3
    have N3 := Fr.app N0 N3q
    have hv3 : fw = o3 := by rw [ho3]; first | exact (if_pos rfl).symm | exact (if_neg (Ne.symm hne)).symm
    subst hv3
    have sz3 : n0 ≤ T3.heap.size := by rw [hh3]; exact Z0
    have f4 := SI; rw [← hh3] at f4
    have f5 := SW; rw [← hh3] at f5
    have f6 := EI; rw [← hh3] at f6
    have f7 := EW; rw [← hh3] at f7
    show OwnG p e below s _ _ _ (T3.setTop (mkF m 20 #[.val (.int p1), .val (.ref fi), .unset] [(.ref fw)]))
    refine own_by (fun t kk_ => XS.astoreN X3.here hx rfl (hb hby at_20) rfl rfl (l' := #[.val (.int p1), .val (.ref fi), .val (.ref fw)]) rfl kk_) ?_
    show OwnG p e below s _ _ _ (T3.setTop (mkF m 21 #[.val (.int p1), .val (.ref fi), .val (.ref fw)] []))
    refine own_by (fun t kk_ => XS.aloadN X3.here hx rfl (hb hby at_21) rfl rfl kk_) ?_
    show OwnG p e below s _ _ _ (T3.setTop (mkF m 22 #[.val (.int p1), .val (.ref fi), .val (.ref fw)] [(.ref fw)]))
    refine own_by (fun t kk_ => XS.ifnonnullYes X3.here hx rfl (pc0 := 22) (pc' := 27) rfl (hb hby at_22) rfl (by decide) (by decide) kk_) ?_
    show OwnG p e below s _ _ _ (T3.setTop (mkF m 27 #[.val (.int p1), .val (.ref fi), .val (.ref fw)] []))
    refine own_by (fun t kk_ => XS.aloadN X3.here hx rfl (hb hby at_27) rfl rfl kk_) ?_
    show OwnG p e below s _ _ _ (T3.setTop (mkF m 28 #[.val (.int p1), .val (.ref fi), .val (.ref fw)] [(.ref fw)]))
    refine own_by (fun t kk_ => XS.aloadN X3.here hx rfl (hb hby at_28) rfl rfl kk_) ?_
    show OwnG p e below s _ _ _ (T3.setTop (mkF m 29 #[.val (.int p1), .val (.ref fi), .val (.ref fw)] [(.ref fi), (.ref fw)]))
    refine own_by (fun t kk_ => Jvm.RoadKit.acmp (g := (mkF m 29 #[.val (.int p1), .val (.ref fi), .val (.ref fw)] [(.ref fi), (.ref fw)])) X3 hx rfl rfl rfl (pc0 := 29) (pc' := 34) (same := false) rfl (hb hby at_29) rfl (decide_eq_false fun q => (Ne.symm hne) (Value.ref.inj q)) (by decide) (by decide) kk_) ?_
    show OwnG p e below s _ _ _ (T3.setTop (mkF m 34 #[.val (.int p1), .val (.ref fi), .val (.ref fw)] []))
    refine own_by (fun t kk_ => XS.aloadN X3.here hx rfl (hb hby at_34) rfl rfl kk_) ?_
    show OwnG p e below s _ _ _ (T3.setTop (mkF m 35 #[.val (.int p1), .val (.ref fi), .val (.ref fw)] [(.ref fw)]))
    obtain ⟨cq8, kq8, q8a, q8b, q8c⟩ := isOf hZ (rfl : T3.heap = T3.heap) f7
    obtain ⟨_, _, ⟨T8, L8, k8, n8⟩, -, X8, ⟨Lc8, hQ8, l8, y8, z8⟩, st8⟩ := X3.virtualBack hx (y := (⟨"com/example/gasholder/gasholder/Flow", "opposite", "()Lcom/example/gasholder/gasholder/Flow;"⟩ : MethodName)) (z := (⟨"com/example/gasholder/gasholder/Flow", "opposite", "()Lcom/example/gasholder/gasholder/Flow;"⟩ : MethodName)) hown (mvT hZ (hw _ (List.mem_of_getElem? (i := 3) rfl))) (mvT hZ (hw _ (List.mem_of_getElem? (i := 4) rfl))) (notFace_of_selects (args := #[]) (mvT hZ (hw _ (List.mem_of_getElem? (i := 6) rfl)))) (mvT hZ (hw _ (List.mem_of_getElem? (i := 6) rfl))) (mvT hZ (hw _ (List.mem_of_getElem? (i := 5) rfl))) (by decide) (backOf (W := 0) (rm1 l Z a0 hw [] fw fi fw T3.heap n0 sz3 f4 f5) hZ (hw _ (List.mem_of_getElem? (i := 7) rfl)) (hw _ (List.mem_of_getElem? (i := 1) rfl)) (by decide) (by decide)) q8a q8c (g := (mkF m 35 #[.val (.int p1), .val (.ref fi), .val (.ref fw)] [(.ref fw)])) rfl (by rw [hml]; rfl) (Steps.refl _) (argsL := []) (rest := []) (lenOf pd_0 rfl) rfl (by show 2 * 0 + _ ≤ _; exact Nat.le_of_eq rfl) (hb hby at_35) (fun _ _ => ⟨rfl, (rfl : T3.heap = T3.heap), (by decide : 0 + 0 ≤ _), (by decide : 0 + 0 ≤ _)⟩)
    dsimp only [Pt.U, Pt.locs, Pt.cells, Pt.slots] at X8 l8 y8 z8 st8 hQ8
    subst l8 y8 z8
    refine own_by (fun t kk_ => st8.trans kk_) ?_
    obtain ⟨⟨o8, rfl, ho8⟩, N8q, hh8⟩ := hQ8
    have N8 := Fr.app N3 N8q
    have hv8 : fi = o8 := by rw [ho8]; first | exact (if_pos rfl).symm | exact (if_neg (Ne.symm hne)).symm
    subst hv8
    have sz8 : n0 ≤ T8.heap.size := by rw [hh8]; exact sz3
    have f9 := f4; rw [← hh8] at f9
    have f10 := f5; rw [← hh8] at f10
    have f11 := f6; rw [← hh8] at f11
    have f12 := f7; rw [← hh8] at f12
    show OwnG p e below s _ _ _ (T8.setTop (mkF m 38 #[.val (.int p1), .val (.ref fi), .val (.ref fw)] [(.ref fi)]))
    refine own_by (fun t kk_ => XS.aloadN X8.here hx rfl (hb hby at_38) rfl rfl kk_) ?_
    show OwnG p e below s _ _ _ (T8.setTop (mkF m 39 #[.val (.int p1), .val (.ref fi), .val (.ref fw)] [(.ref fi), (.ref fi)]))
    refine own_by (fun t kk_ => Jvm.RoadKit.acmp (g := (mkF m 39 #[.val (.int p1), .val (.ref fi), .val (.ref fw)] [(.ref fi), (.ref fi)])) X8 hx rfl rfl rfl (pc0 := 39) (pc' := 42) (same := true) rfl (hb hby at_39) rfl (decide_eq_true rfl) (by decide) (by decide) kk_) ?_
    show OwnG p e below s _ _ _ (T8.setTop (mkF m 42 #[.val (.int p1), .val (.ref fi), .val (.ref fw)] []))
    refine own_by (fun t kk_ => XS.iconst X8.here hx rfl (hb hby at_42) kk_) ?_
    show OwnG p e below s _ _ _ (T8.setTop (mkF m 43 #[.val (.int p1), .val (.ref fi), .val (.ref fw)] [(.int (1 : Int32))]))
    refine own_by (fun t kk_ => XS.goto X8.here hx rfl (pc0 := 43) (pc' := 47) rfl (hb hby at_43) (by decide) (by decide) kk_) ?_
    show OwnG p e below s _ _ _ (T8.setTop (mkF m 47 #[.val (.int p1), .val (.ref fi), .val (.ref fw)] [(.int (1 : Int32))]))
    exact own_outN X8 hx hret (by simp) hlk (hb hby at_47) rfl (⟨rfl, N8⟩) (by decide) (by decide)
  · refine own_by (fun t kk_ => XS.ifYes X0.here hx rfl (pc0 := 3) (pc' := 12) rfl (hb hby at_3) rfl ((if0 _ _).trans (feq hb3_1).2) (by decide) (by decide) kk_) ?_
    show OwnG p e below s _ _ _ (s₁.setTop (mkF m 12 #[.val (.int p1), .unset, .unset] []))
    obtain ⟨T13, X13, e13, st13⟩ := getS2 X0 hx hZ hown (host := "") (Or.inl (hw _ (List.mem_of_getElem? (i := 11) rfl))) Via.refl e0 SW (g := (mkF m 12 #[.val (.int p1), .unset, .unset] [])) rfl (hb hby at_12)
    refine own_by (fun t kk_ => st13 _ kk_) ?_
    show OwnG p e below s _ _ _ (T13.setTop (mkF m 15 #[.val (.int p1), .unset, .unset] [(.ref fw)]))
    refine own_by (fun t kk_ => XS.astoreN X13.here hx rfl (hb hby at_15) rfl rfl (l' := #[.val (.int p1), .val (.ref fw), .unset]) rfl kk_) ?_
    show OwnG p e below s _ _ _ (T13.setTop (mkF m 16 #[.val (.int p1), .val (.ref fw), .unset] []))
    refine own_by (fun t kk_ => XS.aloadN X13.here hx rfl (hb hby at_16) rfl rfl kk_) ?_
    show OwnG p e below s _ _ _ (T13.setTop (mkF m 17 #[.val (.int p1), .val (.ref fw), .unset] [(.ref fw)]))
    obtain ⟨cq14, kq14, q14a, q14b, q14c⟩ := isOf hZ e13 EW
    obtain ⟨_, _, ⟨T14, L14, k14, n14⟩, -, X14, ⟨Lc14, hQ14, l14, y14, z14⟩, st14⟩ := X13.virtualBack hx (y := (⟨"com/example/gasholder/gasholder/Flow", "opposite", "()Lcom/example/gasholder/gasholder/Flow;"⟩ : MethodName)) (z := (⟨"com/example/gasholder/gasholder/Flow", "opposite", "()Lcom/example/gasholder/gasholder/Flow;"⟩ : MethodName)) hown (mvT hZ (hw _ (List.mem_of_getElem? (i := 3) rfl))) (mvT hZ (hw _ (List.mem_of_getElem? (i := 4) rfl))) (notFace_of_selects (args := #[]) (mvT hZ (hw _ (List.mem_of_getElem? (i := 6) rfl)))) (mvT hZ (hw _ (List.mem_of_getElem? (i := 6) rfl))) (mvT hZ (hw _ (List.mem_of_getElem? (i := 5) rfl))) (by decide) (backOf (W := 0) (rm1 l Z a0 hw [] fw fi fw h0 n0 Z0 SI SW) hZ (hw _ (List.mem_of_getElem? (i := 7) rfl)) (hw _ (List.mem_of_getElem? (i := 1) rfl)) (by decide) (by decide)) q14a q14c (g := (mkF m 17 #[.val (.int p1), .val (.ref fw), .unset] [(.ref fw)])) rfl (by rw [hml]; rfl) (Steps.refl _) (argsL := []) (rest := []) (lenOf pd_0 rfl) rfl (by show 2 * 0 + _ ≤ _; exact Nat.le_of_eq rfl) (hb hby at_17) (fun _ _ => ⟨rfl, e13, (by decide : 0 + 0 ≤ _), (by decide : 0 + 0 ≤ _)⟩)
    dsimp only [Pt.U, Pt.locs, Pt.cells, Pt.slots] at X14 l14 y14 z14 st14 hQ14
    subst l14 y14 z14
    refine own_by (fun t kk_ => st14.trans kk_) ?_
    obtain ⟨⟨o14, rfl, ho14⟩, N14q, hh14⟩ := hQ14
    have N14 := Fr.app N0 N14q
    have hv14 : fi = o14 := by rw [ho14]; first | exact (if_pos rfl).symm | exact (if_neg (Ne.symm hne)).symm
    subst hv14
    have sz14 : n0 ≤ T14.heap.size := by rw [hh14]; exact Z0
    have f15 := SI; rw [← hh14] at f15
    have f16 := SW; rw [← hh14] at f16
    have f17 := EI; rw [← hh14] at f17
    have f18 := EW; rw [← hh14] at f18
    show OwnG p e below s _ _ _ (T14.setTop (mkF m 20 #[.val (.int p1), .val (.ref fw), .unset] [(.ref fi)]))
    refine own_by (fun t kk_ => XS.astoreN X14.here hx rfl (hb hby at_20) rfl rfl (l' := #[.val (.int p1), .val (.ref fw), .val (.ref fi)]) rfl kk_) ?_
    show OwnG p e below s _ _ _ (T14.setTop (mkF m 21 #[.val (.int p1), .val (.ref fw), .val (.ref fi)] []))
    refine own_by (fun t kk_ => XS.aloadN X14.here hx rfl (hb hby at_21) rfl rfl kk_) ?_
    show OwnG p e below s _ _ _ (T14.setTop (mkF m 22 #[.val (.int p1), .val (.ref fw), .val (.ref fi)] [(.ref fi)]))
    refine own_by (fun t kk_ => XS.ifnonnullYes X14.here hx rfl (pc0 := 22) (pc' := 27) rfl (hb hby at_22) rfl (by decide) (by decide) kk_) ?_
    show OwnG p e below s _ _ _ (T14.setTop (mkF m 27 #[.val (.int p1), .val (.ref fw), .val (.ref fi)] []))
    refine own_by (fun t kk_ => XS.aloadN X14.here hx rfl (hb hby at_27) rfl rfl kk_) ?_
    show OwnG p e below s _ _ _ (T14.setTop (mkF m 28 #[.val (.int p1), .val (.ref fw), .val (.ref fi)] [(.ref fi)]))
    refine own_by (fun t kk_ => XS.aloadN X14.here hx rfl (hb hby at_28) rfl rfl kk_) ?_
    show OwnG p e below s _ _ _ (T14.setTop (mkF m 29 #[.val (.int p1), .val (.ref fw), .val (.ref fi)] [(.ref fw), (.ref fi)]))
    refine own_by (fun t kk_ => Jvm.RoadKit.acmp (g := (mkF m 29 #[.val (.int p1), .val (.ref fw), .val (.ref fi)] [(.ref fw), (.ref fi)])) X14 hx rfl rfl rfl (pc0 := 29) (pc' := 34) (same := false) rfl (hb hby at_29) rfl (decide_eq_false fun q => hne (Value.ref.inj q)) (by decide) (by decide) kk_) ?_
    show OwnG p e below s _ _ _ (T14.setTop (mkF m 34 #[.val (.int p1), .val (.ref fw), .val (.ref fi)] []))
    refine own_by (fun t kk_ => XS.aloadN X14.here hx rfl (hb hby at_34) rfl rfl kk_) ?_
    show OwnG p e below s _ _ _ (T14.setTop (mkF m 35 #[.val (.int p1), .val (.ref fw), .val (.ref fi)] [(.ref fi)]))
    obtain ⟨cq19, kq19, q19a, q19b, q19c⟩ := isOf hZ (rfl : T14.heap = T14.heap) f17
    obtain ⟨_, _, ⟨T19, L19, k19, n19⟩, -, X19, ⟨Lc19, hQ19, l19, y19, z19⟩, st19⟩ := X14.virtualBack hx (y := (⟨"com/example/gasholder/gasholder/Flow", "opposite", "()Lcom/example/gasholder/gasholder/Flow;"⟩ : MethodName)) (z := (⟨"com/example/gasholder/gasholder/Flow", "opposite", "()Lcom/example/gasholder/gasholder/Flow;"⟩ : MethodName)) hown (mvT hZ (hw _ (List.mem_of_getElem? (i := 3) rfl))) (mvT hZ (hw _ (List.mem_of_getElem? (i := 4) rfl))) (notFace_of_selects (args := #[]) (mvT hZ (hw _ (List.mem_of_getElem? (i := 6) rfl)))) (mvT hZ (hw _ (List.mem_of_getElem? (i := 6) rfl))) (mvT hZ (hw _ (List.mem_of_getElem? (i := 5) rfl))) (by decide) (backOf (W := 0) (rm1 l Z a0 hw [] fi fi fw T14.heap n0 sz14 f15 f16) hZ (hw _ (List.mem_of_getElem? (i := 7) rfl)) (hw _ (List.mem_of_getElem? (i := 1) rfl)) (by decide) (by decide)) q19a q19c (g := (mkF m 35 #[.val (.int p1), .val (.ref fw), .val (.ref fi)] [(.ref fi)])) rfl (by rw [hml]; rfl) (Steps.refl _) (argsL := []) (rest := []) (lenOf pd_0 rfl) rfl (by show 2 * 0 + _ ≤ _; exact Nat.le_of_eq rfl) (hb hby at_35) (fun _ _ => ⟨rfl, (rfl : T14.heap = T14.heap), (by decide : 0 + 0 ≤ _), (by decide : 0 + 0 ≤ _)⟩)
    dsimp only [Pt.U, Pt.locs, Pt.cells, Pt.slots] at X19 l19 y19 z19 st19 hQ19
    subst l19 y19 z19
    refine own_by (fun t kk_ => st19.trans kk_) ?_
    obtain ⟨⟨o19, rfl, ho19⟩, N19q, hh19⟩ := hQ19
    have N19 := Fr.app N14 N19q
    have hv19 : fw = o19 := by rw [ho19]; first | exact (if_pos rfl).symm | exact (if_neg (Ne.symm hne)).symm
    subst hv19
    have sz19 : n0 ≤ T19.heap.size := by rw [hh19]; exact sz14
    have f20 := f15; rw [← hh19] at f20
    have f21 := f16; rw [← hh19] at f21
    have f22 := f17; rw [← hh19] at f22
    have f23 := f18; rw [← hh19] at f23
    show OwnG p e below s _ _ _ (T19.setTop (mkF m 38 #[.val (.int p1), .val (.ref fw), .val (.ref fi)] [(.ref fw)]))
    refine own_by (fun t kk_ => XS.aloadN X19.here hx rfl (hb hby at_38) rfl rfl kk_) ?_
    show OwnG p e below s _ _ _ (T19.setTop (mkF m 39 #[.val (.int p1), .val (.ref fw), .val (.ref fi)] [(.ref fw), (.ref fw)]))
    refine own_by (fun t kk_ => Jvm.RoadKit.acmp (g := (mkF m 39 #[.val (.int p1), .val (.ref fw), .val (.ref fi)] [(.ref fw), (.ref fw)])) X19 hx rfl rfl rfl (pc0 := 39) (pc' := 42) (same := true) rfl (hb hby at_39) rfl (decide_eq_true rfl) (by decide) (by decide) kk_) ?_
    show OwnG p e below s _ _ _ (T19.setTop (mkF m 42 #[.val (.int p1), .val (.ref fw), .val (.ref fi)] []))
    refine own_by (fun t kk_ => XS.iconst X19.here hx rfl (hb hby at_42) kk_) ?_
    show OwnG p e below s _ _ _ (T19.setTop (mkF m 43 #[.val (.int p1), .val (.ref fw), .val (.ref fi)] [(.int (1 : Int32))]))
    refine own_by (fun t kk_ => XS.goto X19.here hx rfl (pc0 := 43) (pc' := 47) rfl (hb hby at_43) (by decide) (by decide) kk_) ?_
    show OwnG p e below s _ _ _ (T19.setTop (mkF m 47 #[.val (.int p1), .val (.ref fw), .val (.ref fi)] [(.int (1 : Int32))]))
    exact own_outN X19 hx hret (by simp) hlk (hb hby at_47) rfl (⟨rfl, N19⟩) (by decide) (by decide)
set_option maxRecDepth 65536 in
set_option maxHeartbeats 40000000 in
theorem comes_1 {Post : Tables → Env → Array Value → State → Outcome → State → Prop} (hpost : ∀ tb e args s v u, (limb_1_1.after args s (.returned v) u = true ∧ limb_1_2.after args s (.returned v) u = true ∧ True) → FrameEnd s (.returned v) u (Jvm.fieldLocs frame_1_writes args s ++ Jvm.arrayLocs frame_1_arrays args s ++ Jvm.staticLocs frame_1_statics s) 0 0 → Post tb e args s (.returned v) u) :
    ArmFor flags0 classFile x code maxLocals ret World_1 tables_1 room_1 Calls_1 rest_1 Pre_1 Post := by
  intro l hfl _ _ p e ha hc hk s m args below hf hA hF happ hP
  obtain ⟨hcalls, hrest, hpre⟩ := hP
  obtain ⟨-, -, -, hnamed, -, -, -, hat⟩ := (Spec.applies_iff hf).mp happ
  obtain ⟨hg, hn⟩ := and_e (Cond.before_iff.mp (show (Jvm.Cond.and given_1 narrow_1).before args s = true from hpre))
  obtain ⟨gc, gr0⟩ := and_e hg
  obtain ⟨w0, rfl⟩ : ∃ w0 : Value, args = #[w0] := by
    have hs : args.size = 1 := by simpa [Cond.value, given_1] using gc
    obtain ⟨L⟩ := args
    match L, hs with
    | [w0], _ => exact ⟨w0, rfl⟩
  have hw := fun d (hd : d ∈ tables_1) => atoms_spec (ws := Jvm.Cond.code x code maxLocals ret :: tables_1) hat d (List.mem_cons_of_mem _ hd)
  obtain ⟨i0, ei0⟩ := is_v gr0
  obtain rfl : w0 = (.int i0) := Option.some.inj ei0
  obtain ⟨b1, b2⟩ := and_e hn
  obtain ⟨b3, b4⟩ := and_e b2
  obtain ⟨b5, b6⟩ := and_e b4
  obtain ⟨fi, ei⟩ := exa_v b1
  obtain ⟨fw, ew⟩ := exa_v b3
  have EI := Exa.start ei b1
  have EW := Exa.start ew b3
  have SI : Sta s s.heap "com/example/gasholder/gasholder/Flow" "INJECTION" "Lcom/example/gasholder/gasholder/Flow;" (.ref fi) := Sta.start ei (Or.inr ⟨(hw _ (List.mem_of_getElem? (i := 1) rfl)), (hw _ (List.mem_of_getElem? (i := 2) rfl))⟩)
  have SW : Sta s s.heap "com/example/gasholder/gasholder/Flow" "WITHDRAWAL" "Lcom/example/gasholder/gasholder/Flow;" (.ref fw) := Sta.start ew (Or.inr ⟨(hw _ (List.mem_of_getElem? (i := 1) rfl)), (hw _ (List.mem_of_getElem? (i := 10) rfl))⟩)
  have ow := eqv_i (Term.int_eval (1 : Int32)) b5
  have oi := eqv_i (Term.int_eval (0 : Int32)) b6
  rw [fld_at ew] at ow
  rw [fld_at ei] at oi
  have hne : fi ≠ fw := Fld.ne (Fld.start oi) (Fld.start ow) (by simp)
  obtain ⟨n, o, h1, h2, h3, _, L, rfl, ⟨rfl, N⟩, hq⟩ := rm0 l s _ hw tables_1 i0 fi fw s.heap s.heap.size (Nat.le_refl _) SI SW EI EW hne p e ha hc hk s m _ below hf ((Spec.applies_iff_loose hf).mp happ).1 ⟨rfl, State.Warmed39.refl s, rfl⟩ trivial
  refine ⟨n, _, h1, h2, h3, hpost _ _ _ _ _ _ ⟨Cond.after_iff.mpr rfl, Cond.after_iff.mpr (eq_i res_at (Term.int_eval (1)) rfl), trivial⟩ ⟨hq.1, hq.2.1, (hq.2.2.sift fun y hy => Or.inr (N y hy)).mono (by decide) (by decide)⟩⟩
theorem main_1_1 : Claimed_1_1 := comes_1 fun _ _ _ _ _ _ h hF => ⟨h.1, hF⟩
theorem main_1_2 : Claimed_1_2 := comes_1 fun _ _ _ _ _ _ h hF => ⟨h.2.1, hF⟩
end Jvm.Pilot.@@N@@
namespace Jvm.Pilot.@@N@@
open Jvm Jvm.ClassFile Sem Op Lib Jvm.Free Jvm.Stand Jvm.Pilot.@@N@@.Jvm.D
/-! MADE BY PROGRAM (witnessworld.py) out of the Statement's table words and the real class files: 12 classes; the members and pool entries that the words name. The judged class is class 1, her method 1. -/
namespace start1
open Jvm.ClassFile
def u (s : String) : CpInfo := .utf8 (stringToUtf16 s)
/-- a pool by its gaps: so many unusable entries, then the entry; so many at the end -/
def gap : Nat → List CpInfo → List CpInfo
  | 0, r => r
  | n + 1, r => .unusable :: gap n r
def poolList (es : List (Nat × CpInfo)) (last : Nat) : List CpInfo := es.foldr (fun e r => gap e.1 (e.2 :: r)) (gap last [])
def pool (es : List (Nat × CpInfo)) (last : Nat) : Array CpInfo := ⟨poolList es last⟩
def fileOf (pool : Array CpInfo) (this : Nat) (attrs : Array Attribute := #[]) (ms : Array MethodInfo := #[]) (fl : Nat := 33) (sup : Nat := 0) (ifs : Array Nat := #[]) (fds : Array FieldInfo := #[]) : ClassFile where
  minorVersion := 0
  majorVersion := 65
  constantPool := pool
  accessFlags := fl
  thisClass := this
  superClass := sup
  interfaces := ifs
  fields := fds
  methods := ms
  attributes := attrs
def plain (name : String) (sup : Option ClassId) : Class where
  name := name
  kind := .ordinary
  loader := none
  accessFlags := 33
  super := sup
  interfaces := #[]
  cf := none
  fields := #[]
  methods := #[]
  instanceTypes := #[]
  staticTypes := #[]
  resolved := #[]
  callSites := []
  init := .initialized
  statics := none
  mirror := none

def pool0 : Array CpInfo := pool [(5, u "<init>"), (0, u "()V"), (1, .class_ 10), (1, u "java/lang/Object")] 113

def k0m0 : Method := { name := "<init>", desc := "()V", sig := { parameters := [], returnType := none }, accessFlags := 1, code := none }
/-- java/lang/Object -/
def k0 : Class := { plain "java/lang/Object" none with
  accessFlags := 33
  interfaces := #[]
  cf := some (fileOf pool0 8 #[] #[{ accessFlags := 1, nameIndex := 5, descriptorIndex := 6, attributes := #[] }] 33 0 #[] #[])
  fields := #[]
  methods := #[k0m0]
  instanceTypes := #[]
  staticTypes := #[]
  resolved := Array.replicate 124 none
  statics := none }

def pool1 : Array CpInfo := pool [(2, .class_ 4), (1, u "java/lang/Object"), (0, u "<init>"), (0, u "()V"), (0, .fieldref 8 9), (0, .class_ 10), (0, .nameAndType 11 12), (0, u "com/example/gasholder/gasholder/Flow"), (0, u "INJECTION"), (0, u "Lcom/example/gasholder/gasholder/Flow;"), (0, .fieldref 8 14), (0, .nameAndType 15 12), (0, u "WITHDRAWAL"), (0, .methodref 8 17), (0, .nameAndType 18 19), (0, u "opposite"), (0, u "()Lcom/example/gasholder/gasholder/Flow;"), (0, .class_ 21), (0, u "com/example/gasholder/gasholder/FlowOppositePinLaw"), (2, u "law"), (0, u "(I)Z")] 3

def k1m0 : Method := { name := "<init>", desc := "()V", sig := { parameters := [], returnType := none }, accessFlags := 2, code := none }
def k1c1 : Code := { maxStack := 2, maxLocals := 3, code := code, exceptionTable := #[], attributes := #[] }
def k1m1 : Method := { name := "law", desc := "(I)Z", sig := { parameters := [.int], returnType := some .boolean }, accessFlags := 9, code := some k1c1 }
/-- com/example/gasholder/gasholder/FlowOppositePinLaw -/
def k1 : Class := { plain "com/example/gasholder/gasholder/FlowOppositePinLaw" (some 0) with
  accessFlags := 49
  interfaces := #[]
  cf := some (fileOf pool1 20 #[] #[{ accessFlags := 2, nameIndex := 5, descriptorIndex := 6, attributes := #[] }, { accessFlags := 9, nameIndex := 24, descriptorIndex := 25, attributes := #[] }] 49 2 #[] #[])
  fields := #[]
  methods := #[k1m0, k1m1]
  instanceTypes := #[]
  staticTypes := #[]
  resolved := Array.replicate 29 none
  statics := none }

def pool2 : Array CpInfo := pool [(1, .class_ 2), (0, u "java/lang/constant/Constable"), (0, .class_ 4), (0, u "java/lang/Object")] 6

/-- java/lang/constant/Constable -/
def k2 : Class := { plain "java/lang/constant/Constable" (some 0) with
  accessFlags := 1537
  interfaces := #[]
  cf := some (fileOf pool2 1 #[] #[] 1537 3 #[] #[])
  fields := #[]
  methods := #[]
  instanceTypes := #[]
  staticTypes := #[]
  resolved := Array.replicate 11 none
  statics := none }

def pool3 : Array CpInfo := pool [(1, .class_ 2), (0, u "java/lang/Comparable"), (0, .class_ 4), (0, u "java/lang/Object")] 7

/-- java/lang/Comparable -/
def k3 : Class := { plain "java/lang/Comparable" (some 0) with
  accessFlags := 1537
  interfaces := #[]
  cf := some (fileOf pool3 1 #[] #[] 1537 3 #[] #[])
  fields := #[]
  methods := #[]
  instanceTypes := #[]
  staticTypes := #[]
  resolved := Array.replicate 12 none
  statics := none }

def pool4 : Array CpInfo := pool [(1, .class_ 2), (0, u "java/io/Serializable"), (0, .class_ 4), (0, u "java/lang/Object")] 2

/-- java/io/Serializable -/
def k4 : Class := { plain "java/io/Serializable" (some 0) with
  accessFlags := 1537
  interfaces := #[]
  cf := some (fileOf pool4 1 #[] #[] 1537 3 #[] #[])
  fields := #[]
  methods := #[]
  instanceTypes := #[]
  staticTypes := #[]
  resolved := Array.replicate 7 none
  statics := none }

def pool5 : Array CpInfo := pool [(2, .class_ 4), (1, u "java/lang/Enum"), (0, u "name"), (0, u "Ljava/lang/String;"), (2, u "ordinal"), (0, u "I"), (1, .class_ 14), (1, u "java/lang/Object"), (4, u "hash"), (86, .class_ 108), (1, u "java/lang/Enum$EnumDesc"), (2, .class_ 112), (0, u "java/lang/constant/Constable"), (0, .class_ 114), (0, u "java/lang/Comparable"), (0, .class_ 116), (0, u "java/io/Serializable")] 87

/-- java/lang/Enum -/
def k5 : Class := { plain "java/lang/Enum" (some 0) with
  accessFlags := 1057
  interfaces := #[2, 3, 4]
  cf := some (fileOf pool5 2 #[.nestMembers #[106]] #[] 1057 12 #[111, 113, 115] #[{ accessFlags := 18, nameIndex := 5, descriptorIndex := 6, attributes := #[] }, { accessFlags := 18, nameIndex := 9, descriptorIndex := 10, attributes := #[] }, { accessFlags := 2, nameIndex := 19, descriptorIndex := 10, attributes := #[] }])
  fields := #[{ name := "name", type := (.object "java/lang/String"), accessFlags := 18, slot := 0, constantValue := 0 }, { name := "ordinal", type := .int, accessFlags := 18, slot := 1, constantValue := 0 }, { name := "hash", type := .int, accessFlags := 2, slot := 2, constantValue := 0 }]
  methods := #[]
  instanceTypes := #[(.object "java/lang/String"), .int, .int]
  staticTypes := #[]
  resolved := Array.replicate 204 none
  statics := none }

def pool6 : Array CpInfo := pool [(1, .class_ 2), (0, u "com/example/gasholder/gasholder/Flow"), (0, .fieldref 1 4), (0, .nameAndType 5 6), (0, u "INJECTION"), (0, u "Lcom/example/gasholder/gasholder/Flow;"), (0, .fieldref 1 8), (0, .nameAndType 9 6), (0, u "WITHDRAWAL"), (2, u "$VALUES"), (0, u "[Lcom/example/gasholder/gasholder/Flow;"), (6, .class_ 22), (1, u "java/lang/Enum"), (20, u "opposite"), (0, u "()Lcom/example/gasholder/gasholder/Flow;")] 5

def k6c0 : Code := { maxStack := 2, maxLocals := 1, code := prog_9_method_4_code, exceptionTable := #[], attributes := #[] }
def k6m0 : Method := { name := "opposite", desc := "()Lcom/example/gasholder/gasholder/Flow;", sig := { parameters := [], returnType := some (.object "com/example/gasholder/gasholder/Flow") }, accessFlags := 0, code := some k6c0 }
/-- com/example/gasholder/gasholder/Flow -/
def k6 : Class := { plain "com/example/gasholder/gasholder/Flow" (some 5) with
  accessFlags := 16433
  interfaces := #[]
  cf := some (fileOf pool6 1 #[] #[{ accessFlags := 0, nameIndex := 43, descriptorIndex := 44, attributes := #[] }] 16433 20 #[] #[{ accessFlags := 16409, nameIndex := 5, descriptorIndex := 6, attributes := #[] }, { accessFlags := 16409, nameIndex := 9, descriptorIndex := 6, attributes := #[] }, { accessFlags := 4122, nameIndex := 12, descriptorIndex := 13, attributes := #[] }])
  fields := #[{ name := "INJECTION", type := (.object "com/example/gasholder/gasholder/Flow"), accessFlags := 16409, slot := 0, constantValue := 0 }, { name := "WITHDRAWAL", type := (.object "com/example/gasholder/gasholder/Flow"), accessFlags := 16409, slot := 1, constantValue := 0 }, { name := "$VALUES", type := (.array (.object "com/example/gasholder/gasholder/Flow")), accessFlags := 4122, slot := 2, constantValue := 0 }]
  methods := #[k6m0]
  instanceTypes := #[(.object "java/lang/String"), .int, .int]
  staticTypes := #[(.object "com/example/gasholder/gasholder/Flow"), (.object "com/example/gasholder/gasholder/Flow"), (.array (.object "com/example/gasholder/gasholder/Flow"))]
  resolved := Array.replicate 50 none
  statics := some 0 }

def pool7 : Array CpInfo := pool [(1, u "java/lang/Cloneable"), (0, .class_ 1), (0, u "java/lang/Object"), (0, .class_ 3)] 3

/-- java/lang/Cloneable -/
def k7 : Class := { plain "java/lang/Cloneable" (some 0) with
  accessFlags := 1537
  interfaces := #[]
  cf := some (fileOf pool7 2 #[] #[] 1537 4 #[] #[])
  fields := #[]
  methods := #[]
  instanceTypes := #[]
  staticTypes := #[]
  resolved := Array.replicate 8 none
  statics := none }

/-- the primitive byte -/
def k8 : Class := { plain "byte" none with kind := .primitive 'B', accessFlags := 0x411 }
/-- [B -/
def k9 : Class := { plain "[B" (some 0) with kind := .array 8 .byte, interfaces := #[7, 4], accessFlags := 1041 }

/-- the primitive int -/
def k10 : Class := { plain "int" none with kind := .primitive 'I', accessFlags := 0x411 }
/-- [I -/
def k11 : Class := { plain "[I" (some 0) with kind := .array 10 .int, interfaces := #[7, 4], accessFlags := 1041 }

def heap : Heap := #[{ cls := 6, slots := #[.ref 1, .ref 2, .null], vm := .statics 6 },
  { cls := 6, slots := #[.null, .int 0, .int 0], vm := .none },
  { cls := 6, slots := #[.null, .int 1, .int 0], vm := .none }]
def classes : Array Class := #[k0, k1, k2, k3, k4, k5, k6, k7, k8, k9, k10, k11]
def interned : List (Array UInt16 × Addr) := []
def slotsUsed : Nat := 9
def theMethod : MethodId := ⟨1, 1⟩
def args0 : Array Value := #[.int 5]
def aboutOver (below : List Frame) : State where
  vm := { classes := classes, interned := interned.toArray }
  heap := heap
  slotsUsed := slotsUsed
  threads := #[{ frames := .invoking theMethod args0 :: below }]
def below0 : List Frame := [.native { method := ⟨0, 0⟩, args := #[] }]
def about1 : State := aboutOver below0
def p0 : Program := .bare "" "" ""
def e0 : Env := launch0.env 0 0 0
theorem w_frames : about1.frames = Frame.invoking theMethod args0 :: below0 := rfl
set_option maxRecDepth 65536 in
theorem w_args : argsFit about1.vm theMethod args0 = true := by decide +kernel
set_option maxRecDepth 65536 in
theorem w_heap : heapFits about1 = true := by decide +kernel
set_option maxRecDepth 65536 in
theorem w_runnable : about1.curStatus? = some .runnable := by decide +kernel
set_option maxRecDepth 65536 in
theorem w_alone : about1.alone = true := by decide +kernel
set_option maxRecDepth 65536 in
theorem w_named : about1.methodNamed? x = some theMethod := by decide +kernel
set_option maxRecDepth 65536 in
theorem w_hears : about1.hears theMethod below0 = true := by decide +kernel
set_option maxRecDepth 65536 in
theorem w_ripe : about1.ripe theMethod args0 below0 = true := by decide +kernel
theorem w_running : about1.status = .running := rfl
set_option maxRecDepth 65536 in
theorem w_room : about1.hasRoom e0.platform room_1 = true :=
  launch0.hasRoom_least _ room_1 (by decide +kernel) (by decide +kernel) (by decide +kernel) (by decide +kernel) (by decide +kernel) (by decide +kernel)
theorem allAtoms_all (ts : List Jvm.Cond) (a : Array Jvm.Value) (st : Jvm.State) : (allAtoms ts).before a st = ts.all (fun c => c.before a st) := by
  induction ts with
  | nil => rfl
  | cons c t ih =>
    show (Jvm.Cond.and c (allAtoms t)).before a st = _
    rw [Jvm.Cond.before_and, ih, List.all_cons]
def words1 : List Jvm.Cond := Jvm.Cond.code x code maxLocals ret :: tables_1
/-- a 'code' word, met by the world's own term for the bytes: nothing is compared byte by byte -/
theorem code_word {y : MethodName} {bytes : ByteArray} {mx : Nat} {rt : Option FieldType} {a : Array Value} {s : State} {m : MethodId} {meth : Method} {c : Code} (h1 : s.methodNamed? y = some m) (h2 : s.vm.method? m = some meth) (h3 : meth.code = some c) (h4 : c.code = bytes)
    (h5 : (c.maxLocals == mx && c.exceptionTable.isEmpty && decide (c.maxStack ≤ mostOperands) && decide (meth.sig.returnType = rt) && !meth.locks && decide (parseMethodDescriptor y.desc = some meth.sig)) = true) : (Jvm.Cond.code y bytes mx rt).before a s = true := by
  simp only [Bool.and_eq_true, beq_iff_eq, Bool.not_eq_true', decide_eq_true_eq] at h5
  obtain ⟨⟨⟨⟨⟨g1, g2⟩, g3⟩, g4⟩, g5⟩, g6⟩ := h5
  simp [Cond.before, Cond.holds, Cond.value, h1, h2, h3, h4, g1, g2, g3, g4, g5, g6]
def isCode : Jvm.Cond → Bool
  | .code _ _ _ _ => true
  | _ => false
theorem all_split {L : List Jvm.Cond} {P : Jvm.Cond → Bool} (h1 : L.all (fun c => isCode c || P c) = true) (h2 : ∀ c ∈ L.filter isCode, P c = true) : L.all P = true := by
  refine List.all_eq_true.mpr fun c hc => ?_
  have h := List.all_eq_true.mp h1 c hc
  rcases Bool.eq_false_or_eq_true (isCode c) with hi | hi
  · exact h2 c (List.mem_filter.mpr ⟨hc, hi⟩)
  · simpa [hi] using h
set_option maxRecDepth 65536 in
theorem w_c0 : (Jvm.Cond.code x code maxLocals ret).before args0 about1 = true := code_word (m := ⟨1, 1⟩) (meth := k1m1) (c := k1c1) (by decide +kernel) rfl rfl rfl (by decide +kernel)
set_option maxRecDepth 65536 in
theorem w_c1 : (Jvm.Cond.code ({ cls := "com/example/gasholder/gasholder/Flow", name := "opposite", desc := "()Lcom/example/gasholder/gasholder/Flow;" } : Jvm.MethodName) prog_9_method_4_code (1 : Nat) (Option.some (Jvm.ClassFile.FieldType.object "com/example/gasholder/gasholder/Flow"))).before args0 about1 = true := code_word (m := ⟨6, 0⟩) (meth := k6m0) (c := k6c0) (by decide +kernel) rfl rfl rfl (by decide +kernel)
def codes1 : List Jvm.Cond := [Jvm.Cond.code x code maxLocals ret, Jvm.Cond.code ({ cls := "com/example/gasholder/gasholder/Flow", name := "opposite", desc := "()Lcom/example/gasholder/gasholder/Flow;" } : Jvm.MethodName) prog_9_method_4_code (1 : Nat) (Option.some (Jvm.ClassFile.FieldType.object "com/example/gasholder/gasholder/Flow"))]
set_option maxRecDepth 65536 in
theorem codes_eq : words1.filter isCode = codes1 := rfl
theorem w_codes : ∀ c ∈ words1.filter isCode, c.before args0 about1 = true := by
  rw [codes_eq]
  intro c hc
  simp only [codes1, List.mem_cons, List.not_mem_nil, or_false] at hc
  rcases hc with rfl | rfl
  · exact w_c0
  · exact w_c1
set_option maxRecDepth 65536 in
theorem w_t1 : words1.all (fun c => isCode c || c.before args0 about1) = true := by decide +kernel
theorem w_tables : (allAtoms (Jvm.Cond.code x code maxLocals ret :: tables_1)).before args0 about1 = true := by
  rw [allAtoms_all]
  show words1.all (fun c => c.before args0 about1) = true
  refine all_split ?_ w_codes
  rw [w_t1]
set_option maxRecDepth 65536 in
theorem w_case : (Jvm.Cond.and given_1 narrow_1).before args0 about1 = true := by decide +kernel
theorem w_applies : (headSpec (Jvm.Cond.code x code maxLocals ret :: tables_1) room_1).applies x e0.platform about1 = true :=
  (Spec.applies_iff w_frames).mpr ⟨w_running, w_runnable, w_alone, w_named, w_hears, w_ripe, w_room, w_tables⟩
theorem atStart : AtStart classFile x code maxLocals ret World_1 tables_1 room_1 Calls_1 rest_1 Pre_1 launch0 p0 e0 about1 theMethod args0 below0 :=
  ⟨lists_1, trivial, launch0.admits_env _ _ _, launch0.least_env, fairChoices_fair.cas, fairChoices_fair.clock, w_frames, w_args, w_heap, w_applies, trivial, trivial, w_case⟩
end start1
theorem witness_1 : WitnessClaimed_1 := ⟨start1.p0, start1.e0, start1.about1, start1.theMethod, start1.args0, start1.below0, start1.atStart⟩
end Jvm.Pilot.@@N@@
