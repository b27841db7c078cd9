import JvmDerived
import JvmDerived.Pilot.@@N@@Statement
import JvmDerived.Pilot.@@N@@Code
set_option linter.unusedVariables false
set_option linter.unusedSimpArgs false
namespace Jvm.RoadKit
open Sem ClassFile Op Lib Jvm.Stand Jvm.Free Jvm.LawKit
section OwnKit
variable {p : Program} {l : Launch} {e : Env} {R : Room} {s : State} {m : MethodId} {args : Array Value} {below : List Frame} {meth : Method} {c : Code} {T : State} {locs : List Loc} {cells slots : Nat} {Q : Option Value → Heap → List Loc → Prop} {rc rs : Nat}
theorem retI (X : Stand p l e R s m args below meth c T locs cells slots) (hx : p.tables.exec = Jvm.exec) {pc : Nat} {Ls : Array Slot} {z : Int32} {rest : List Value} (hret : meth.sig.returnType = some .int) (hd : decode c.code pc = .ok (.ireturn, 1)) {fs : List Frame}
    (hl : ∀ (f : JFrame) (acts : List Action), f.method = m → f.locked = none → f.entered = [] → (doReturn e (T.setTop f) acts (some (.int z))).1 = T.setFrames fs) : Steps p.tables e below (T.setTop (mkF m pc Ls (.int z :: rest))) (T.setFrames fs) := by
  have hm' : T.vm.method? m = some meth := X.method'
  have hn : narrow .int (.int z) = .int z := rfl
  show Steps p.tables e below (T.setTop { method := m, pc := pc, locals := Ls, stack := _ :: rest, locked := none }) _
  jvm_step X.here [X.here.top, hx, hd, hm', hret, hn]
  first | (intro acts; rw [hl _ acts rfl rfl rfl]) | rw [hl _ _ rfl rfl rfl]
  exact Steps.refl _
theorem own_retA (X : Stand p l e R s m args below meth c T locs cells slots) (hx : p.tables.exec = Jvm.exec) {pc : Nat} {Ls : Array Slot} {w : Value} {ty : FieldType} {rest : List Value} (hw : w.isRef = true) (hty : ty.isReference = true) (hret : meth.sig.returnType = some ty) (hd : decode c.code pc = .ok (.areturn, 1)) {fs : List Frame}
    (hl : ∀ (f : JFrame) (acts : List Action), f.method = m → f.locked = none → f.entered = [] → (doReturn e (T.setTop f) acts (some w)).1 = T.setFrames fs) : Steps p.tables e below (T.setTop (mkF m pc Ls (w :: rest))) (T.setFrames fs) := by
  have hm' : T.vm.method? m = some meth := X.method'
  show Steps p.tables e below (T.setTop { method := m, pc := pc, locals := Ls, stack := _ :: rest, locked := none }) _
  jvm_step X.here [X.here.top, hx, hd, hm', hret, hw, hty]
  first | (intro acts; rw [hl _ acts rfl rfl rfl]) | rw [hl _ _ rfl rfl rfl]
  exact Steps.refl _
theorem own_retL (X : Stand p l e R s m args below meth c T locs cells slots) (hx : p.tables.exec = Jvm.exec) {pc : Nat} {Ls : Array Slot} {z : Int64} {rest : List Value} (hret : meth.sig.returnType = some .long) (hd : decode c.code pc = .ok (.lreturn, 1)) {fs : List Frame}
    (hl : ∀ (f : JFrame) (acts : List Action), f.method = m → f.locked = none → f.entered = [] → (doReturn e (T.setTop f) acts (some (.long z))).1 = T.setFrames fs) : Steps p.tables e below (T.setTop (mkF m pc Ls (.long z :: rest))) (T.setFrames fs) := by
  have hm' : T.vm.method? m = some meth := X.method'
  show Steps p.tables e below (T.setTop { method := m, pc := pc, locals := Ls, stack := _ :: rest, locked := none }) _
  jvm_step X.here [X.here.top, hx, hd, hm', hret]
  first | (intro acts; rw [hl _ acts rfl rfl rfl]) | rw [hl _ _ rfl rfl rfl]
  exact Steps.refl _
theorem own_retDbl (X : Stand p l e R s m args below meth c T locs cells slots) (hx : p.tables.exec = Jvm.exec) {pc : Nat} {Ls : Array Slot} {z : UInt64} {rest : List Value} (hret : meth.sig.returnType = some .double) (hd : decode c.code pc = .ok (.dreturn, 1)) {fs : List Frame}
    (hl : ∀ (f : JFrame) (acts : List Action), f.method = m → f.locked = none → f.entered = [] → (doReturn e (T.setTop f) acts (some (.double z))).1 = T.setFrames fs) : Steps p.tables e below (T.setTop (mkF m pc Ls (.double z :: rest))) (T.setFrames fs) := by
  have hm' : T.vm.method? m = some meth := X.method'
  show Steps p.tables e below (T.setTop { method := m, pc := pc, locals := Ls, stack := _ :: rest, locked := none }) _
  jvm_step X.here [X.here.top, hx, hd, hm', hret]
  first | (intro acts; rw [hl _ acts rfl rfl rfl]) | rw [hl _ _ rfl rfl rfl]
  exact Steps.refl _
/-- what is left to be shown from the state A on: the run comes back, and Q holds of what it leaves -/
def OwnG (p : Program) (e : Env) (below : List Frame) (s : State) (Q : Option Value → Heap → List Loc → Prop) (rc rs : Nat) (A : State) : Prop :=
  ∃ s₂ o, Steps p.tables e below A s₂ ∧ s₂.status = .running ∧ Ended s₂ below o ∧ ∃ v L, o = .returned v ∧ Q v s₂.heap L ∧ FrameEnd s o s₂ L rc rs
theorem own_by {A B : State} (k : ∀ t, Steps p.tables e below B t → Steps p.tables e below A t) (h : OwnG p e below s Q rc rs B) : OwnG p e below s Q rc rs A := by
  obtain ⟨s₂, o, h1, r⟩ := h
  exact ⟨s₂, o, k _ h1, r⟩
theorem own_out (X : Stand p l e R s m args below meth c T locs cells slots) {v : Option Value} (hv : meth.sig.returnType = none → v = none) (hlk : meth.locks = false) {A : State}
    (k : ∀ fs, (∀ (f : JFrame) (acts : List Action), f.method = m → f.locked = none → f.entered = [] → (doReturn e (T.setTop f) acts v).1 = T.setFrames fs) → Steps p.tables e below A (T.setFrames fs)) (hQ : Q v T.heap locs) (hc : cells ≤ rc) (hs : slots ≤ rs) : OwnG p e below s Q rc rs A := by
  obtain ⟨fs, hr, hrun, hended, hW, hsame⟩ := X.leave (v := v) hv hlk
  exact ⟨_, _, k fs hr, hrun, hended, _, _, rfl, hQ, ⟨_, rfl⟩, hW, hsame.mono hc hs⟩
theorem own_outI (X : Stand p l e R s m args below meth c T locs cells slots) (hx : p.tables.exec = Jvm.exec) {pc : Nat} {Ls : Array Slot} {z : Int32} {rest : List Value} (hret : meth.sig.returnType = some .int) (hlk : meth.locks = false) (hd : decode c.code pc = .ok (.ireturn, 1)) (hQ : Q (some (.int z)) T.heap locs) (hc : cells ≤ rc) (hs : slots ≤ rs) :
    OwnG p e below s Q rc rs (T.setTop (mkF m pc Ls (.int z :: rest))) :=
  own_out X (v := some (.int z)) (fun h => by rw [hret] at h; cases h) hlk (fun fs hr => retI X hx hret hd hr) hQ hc hs
theorem own_outA (X : Stand p l e R s m args below meth c T locs cells slots) (hx : p.tables.exec = Jvm.exec) {pc : Nat} {Ls : Array Slot} {w : Value} {ty : FieldType} {rest : List Value} (hw : w.isRef = true) (hty : ty.isReference = true) (hret : meth.sig.returnType = some ty) (hlk : meth.locks = false) (hd : decode c.code pc = .ok (.areturn, 1)) (hQ : Q (some w) T.heap locs) (hc : cells ≤ rc) (hs : slots ≤ rs) :
    OwnG p e below s Q rc rs (T.setTop (mkF m pc Ls (w :: rest))) :=
  own_out X (v := some w) (fun h => by rw [hret] at h; cases h) hlk (fun fs hr => own_retA X hx hw hty hret hd hr) hQ hc hs
theorem own_outL (X : Stand p l e R s m args below meth c T locs cells slots) (hx : p.tables.exec = Jvm.exec) {pc : Nat} {Ls : Array Slot} {z : Int64} {rest : List Value} (hret : meth.sig.returnType = some .long) (hlk : meth.locks = false) (hd : decode c.code pc = .ok (.lreturn, 1)) (hQ : Q (some (.long z)) T.heap locs) (hc : cells ≤ rc) (hs : slots ≤ rs) :
    OwnG p e below s Q rc rs (T.setTop (mkF m pc Ls (.long z :: rest))) :=
  own_out X (v := some (.long z)) (fun h => by rw [hret] at h; cases h) hlk (fun fs hr => own_retL X hx hret hd hr) hQ hc hs
theorem own_outD (X : Stand p l e R s m args below meth c T locs cells slots) (hx : p.tables.exec = Jvm.exec) {pc : Nat} {Ls : Array Slot} {z : UInt64} {rest : List Value} (hret : meth.sig.returnType = some .double) (hlk : meth.locks = false) (hd : decode c.code pc = .ok (.dreturn, 1)) (hQ : Q (some (.double z)) T.heap locs) (hc : cells ≤ rc) (hs : slots ≤ rs) :
    OwnG p e below s Q rc rs (T.setTop (mkF m pc Ls (.double z :: rest))) :=
  own_out X (v := some (.double z)) (fun h => by rw [hret] at h; cases h) hlk (fun fs hr => own_retDbl X hx hret hd hr) hQ hc hs
theorem own_outV (X : Stand p l e R s m args below meth c T locs cells slots) (hx : p.tables.exec = Jvm.exec) {pc : Nat} {Ls : Array Slot} (hret : meth.sig.returnType = none) (hlk : meth.locks = false) (hd : decode c.code pc = .ok (.return_, 1)) (hQ : Q none T.heap locs) (hc : cells ≤ rc) (hs : slots ≤ rs) :
    OwnG p e below s Q rc rs (T.setTop (mkF m pc Ls [])) :=
  own_out X (v := none) (fun _ => rfl) hlk (fun fs hr => X.returnOut hx hret hd hr) hQ hc hs
theorem own_outN (X : Stand p l e R s m args below meth c T locs cells slots) (hx : p.tables.exec = Jvm.exec) {pc : Nat} {Ls : Array Slot} {z z' : Int32} {t : FieldType} {rest : List Value} (hret : meth.sig.returnType = some t) (ht : t = .boolean ∨ t = .byte ∨ t = .char ∨ t = .short) (hlk : meth.locks = false) (hd : decode c.code pc = .ok (.ireturn, 1)) (hz : nar t z = z') (hQ : Q (some (.int z')) T.heap locs) (hc : cells ≤ rc) (hs : slots ≤ rs) :
    OwnG p e below s Q rc rs (T.setTop (mkF m pc Ls (.int z :: rest))) := by
  subst hz
  exact own_out X (v := some (.int (nar t z))) (fun h => by rw [hret] at h; cases h) hlk (fun fs hr => retN X hx (t := t) hret (by rcases ht with rfl | rfl | rfl | rfl <;> simp) hd hr) hQ hc hs
theorem own_met {y : MethodName} {bytes : ByteArray} {maxL : Nat} {ret : Option FieldType} {rm : Room} {ws : List Cond} {as' : Array Value} {Z : State} {h0 : Heap} (hpl : plainFor y = true)
    (body : ∀ (p : Program) (e : Env) (s : State) (m : MethodId) (below : List Frame) (meth : Method) (c : Code) (s₁ : State), p.tables.exec = Jvm.exec → c.code = bytes → c.maxLocals = maxL → meth.sig.returnType = ret → meth.locks = false → s.vm.findClass y.cls = some m.cls → meth.name = y.name → Z.Warmed39 s.vm →
      Stand p l e rm s m as' below meth c s₁ [] 0 0 → s₁.heap = h0 → OwnG p e below s Q rm.cells rm.slots (s₁.setTop (entryFrame m as' maxL))) :
    MetFree l y (head1 (Cond.code y bytes maxL ret :: ws) rm) (fun a U => a = as' ∧ Z.Warmed39 U.vm ∧ U.heap = h0) (fun _ _ _ _ _ => True) (fun _ U o U' => ∃ v L, o = .returned v ∧ Q v U'.heap L ∧ FrameEnd U o U' L rm.cells rm.slots) := by
  refine MetFree.of_bodySF hpl hisR ?_
  intro p e s m args below meth c s₁ Bd hml0 hP hK
  obtain ⟨rfl, hZ, hh⟩ := hP
  have e0 : s₁.heap = h0 := by rw [← hh, Bd.state]; rfl
  exact body p e s m below meth c s₁ Bd.exec Bd.bytes hml0 Bd.returns Bd.notSynchronized (findClass_of_methodNamed Bd.named) (name_of_methodNamed Bd.named Bd.method).1 hZ (Stand.of_body Bd) e0
theorem own_selp {Z s : State} {a0 args : Array Value} {y : MethodName} {n : Nat} (hZ : Z.Warmed39 s.vm) (wi : (Cond.instantiable y.cls n).before a0 Z = true) (wp : (Cond.privateMethod y).before a0 Z = true) (wm : (Cond.instanceMethod y).before a0 Z = true) (hy : y.cls ≠ "java/lang/invoke/MethodHandle" ∧ y.cls ≠ "java/lang/invoke/VarHandle") : (Cond.selects y.cls y y).before args s = true := by
  obtain ⟨c, k, h1, h2, -, h4, -⟩ := Cond.instantiable_spec (mv (args := args) hZ wi)
  exact selects_self_of_private h1 h2 (Bool.or_eq_false_iff.mp h4).1 (Cond.privateMethod_at (mvP hZ wp (args := #[]))) (mvT hZ wm) hy
end OwnKit
end Jvm.RoadKit
namespace Jvm.Pilot.@@N@@
open Jvm Jvm.ClassFile Sem Op Lib Jvm.Free Jvm.Stand Jvm.LawKit Jvm.RoadKit Bundle Jvm.Pilot.@@N@@.Jvm.D
/-! the plain law -/
def ownR (n d r : Int64) : Prop := (r = n / d ∧ n - (n / d) * d < d - (n - (n / d) * d)) ∨ (r = n / d + 1 ∧ ¬ n - (n / d) * d < d - (n - (n / d) * d))
theorem own_rem {n d : Int64} (hn : 0 ≤ n.toInt) (hd : 0 < d.toInt) : 0 ≤ (n - (n / d) * d).toInt ∧ (n - (n / d) * d).toInt < d.toInt := by
  have h := (c_lrem n d d.toInt rfl).1 hn
  rw [h]
  exact ⟨Int.emod_nonneg _ (by omega), Int.emod_lt_of_pos _ hd⟩
theorem own_sub {x y : Int64} (h1 : -9223372036854775808 ≤ x.toInt - y.toInt) (h2 : x.toInt - y.toInt < 9223372036854775808) : (x - y).toInt = x.toInt - y.toInt := by
  have := c_lsub x y; have := rng64 (x - y); omega
theorem own_add {x y : Int64} (h1 : -9223372036854775808 ≤ x.toInt + y.toInt) (h2 : x.toInt + y.toInt < 9223372036854775808) : (x + y).toInt = x.toInt + y.toInt := by
  have := c_ladd x y; have := rng64 (x + y); omega
theorem own_neg {x : Int64} (h1 : -9223372036854775808 < x.toInt) : (-x).toInt = -x.toInt := by
  have h : (-x : Int64) = 0 - x := by simp
  rw [h]
  have z : (0 : Int64).toInt = 0 := by decide
  have := rng64 x
  rw [own_sub (by omega) (by omega)]; omega
theorem own_e1 {n d r : Int64} (h : r = n / d) : n - r * d = n - (n / d) * d := by rw [h]
theorem own_e2 {n d r : Int64} (h : r = n / d + 1) : n - r * d = (n - (n / d) * d) - d := by rw [h]; generalize n / d = q; grind
theorem own_L1 {n d r q : Int64} (hq : n / d = q) (h : ownR n d r) (hne : ¬ r = q) : r = q + 1 := by
  subst hq
  rcases h with ⟨h, -⟩ | ⟨h, -⟩
  · exact absurd h hne
  · exact h
theorem own_L2 {n d r x : Int64} (hn : 0 ≤ n.toInt) (hd : 0 < d.toInt) (h : ownR n d r) (hx : n - r * d = x) (h0 : ¬ x < 0) : x < d - x := by
  have ht := own_rem hn hd
  have hD := rng64 d
  subst hx
  rcases h with ⟨h, h'⟩ | ⟨h, h'⟩
  · rw [own_e1 h]; exact h'
  · exfalso
    apply h0
    rw [own_e2 h, Int64.lt_iff_toInt_lt, own_sub (by omega) (by omega)]
    have z : (0 : Int64).toInt = 0 := by decide
    omega
theorem own_L3 {n d r x : Int64} (hn : 0 ≤ n.toInt) (hd : 0 < d.toInt) (h : ownR n d r) (hx : n - r * d = x) (h0 : x < 0) : ¬ d + x < -x := by
  have ht := own_rem hn hd
  have hD := rng64 d
  subst hx
  have z : (0 : Int64).toInt = 0 := by decide
  rcases h with ⟨h, h'⟩ | ⟨h, h'⟩
  · rw [own_e1 h, Int64.lt_iff_toInt_lt] at h0; omega
  · rw [own_e2 h]
    generalize n - (n / d) * d = t at *
    rw [Int64.lt_iff_toInt_lt, own_sub (by omega) (by omega)] at h'
    have e1 : (t - d).toInt = t.toInt - d.toInt := own_sub (by omega) (by omega)
    rw [Int64.lt_iff_toInt_lt, own_add (by rw [e1]; omega) (by rw [e1]; omega), own_neg (by rw [e1]; omega), e1]
    omega
theorem own_nn {a n : Int64} (h : a &&& 9223372036854775807 = n) : 0 ≤ n.toInt := by
  have := c_maskL a 9223372036854775807 63 (by decide) (by decide)
  rw [← h, this]
  exact Int.emod_nonneg _ (by decide)
theorem own_pos {d : Int64} (h : 0 ≤ d.toInt) (h0 : ¬ d = 0) : 0 < d.toInt := by
  have : d.toInt ≠ 0 := fun q => h0 (Int64.toInt_inj.mp (by rw [q]; decide))
  omega
theorem own_one : 0 < (1 : Int64).toInt := by decide
theorem own_nz {d : Int64} (h : 0 < d.toInt) : d ≠ 0 := fun q => by subst q; revert h; decide
theorem d1_0 : decode prog_10_method_14_code 0 = .ok (.lload_n 0, 1) := by decide +kernel
theorem d1_1 : decode prog_10_method_14_code 1 = .ok (.lload_n 2, 1) := by decide +kernel
theorem d1_2 : decode prog_10_method_14_code 2 = .ok (.ldiv, 1) := by decide +kernel
theorem d1_3 : decode prog_10_method_14_code 3 = .ok (.lstore 4, 2) := by decide +kernel
theorem d1_5 : decode prog_10_method_14_code 5 = .ok (.lload_n 0, 1) := by decide +kernel
theorem d1_6 : decode prog_10_method_14_code 6 = .ok (.lload_n 2, 1) := by decide +kernel
theorem d1_7 : decode prog_10_method_14_code 7 = .ok (.lrem, 1) := by decide +kernel
theorem d1_8 : decode prog_10_method_14_code 8 = .ok (.lstore 6, 2) := by decide +kernel
theorem d1_10 : decode prog_10_method_14_code 10 = .ok (.lload 6, 2) := by decide +kernel
theorem d1_12 : decode prog_10_method_14_code 12 = .ok (.lload_n 2, 1) := by decide +kernel
theorem d1_13 : decode prog_10_method_14_code 13 = .ok (.lload 6, 2) := by decide +kernel
theorem d1_15 : decode prog_10_method_14_code 15 = .ok (.lsub, 1) := by decide +kernel
theorem d1_16 : decode prog_10_method_14_code 16 = .ok (.lcmp, 1) := by decide +kernel
theorem d1_17 : decode prog_10_method_14_code 17 = .ok (.ifCond .lt 9, 3) := by decide +kernel
theorem d1_20 : decode prog_10_method_14_code 20 = .ok (.lload 4, 2) := by decide +kernel
theorem d1_22 : decode prog_10_method_14_code 22 = .ok (.lconst 1, 1) := by decide +kernel
theorem d1_23 : decode prog_10_method_14_code 23 = .ok (.ladd, 1) := by decide +kernel
theorem d1_24 : decode prog_10_method_14_code 24 = .ok (.lstore 4, 2) := by decide +kernel
theorem d1_26 : decode prog_10_method_14_code 26 = .ok (.lload 4, 2) := by decide +kernel
theorem d1_28 : decode prog_10_method_14_code 28 = .ok (.lreturn, 1) := by decide +kernel
theorem pn_0 : plainName "com/example/gasholder/gasholder/Fraction" = true := by first | (simp [plainName, overriddenIn]; done) | decide +kernel
theorem ef_1 (m : MethodId) (x0 : Int64) (x1 : Int64) : entryFrame m #[(.long x0), (.long x1)] 8 = mkF m 0 #[.val (.long x0), .second, .val (.long x1), .second, .unset, .unset, .unset, .unset] [] := by first | (simp [entryFrame, mkF, argsToLocals, Value.category]; done) | rfl
def Q1 (Z : State) (n d : Int64) (h0 : Heap) (n0 : Nat) (v : Option Value) (h : Heap) (L : List Loc) : Prop := (∃ r, v = some (.long r) ∧ ownR n d r) ∧ Fr n0 L ∧ h = h0
set_option maxRecDepth 65536 in
set_option maxHeartbeats 40000000 in
theorem rm1 (l : Launch) (Z : State) (a0 : Array Value) (hw : ∀ d ∈ tables_1, d.before a0 Z = true) (ws : List Jvm.Cond) (n d : Int64) (h0 : Heap) (n0 : Nat) (Z0 : n0 ≤ h0.size) (hd : 0 < d.toInt) :
    MetFree l (⟨"com/example/gasholder/gasholder/Fraction", "nearest", "(JJ)J"⟩ : MethodName) (head1 (Jvm.Cond.code (⟨"com/example/gasholder/gasholder/Fraction", "nearest", "(JJ)J"⟩ : MethodName) prog_10_method_14_code 8 (some .long) :: ws) ({ frames := 0, cells := 0, slots := 0, locals := 0 } : Room)) (fun a U => a = #[(.long n), (.long d)] ∧ Z.Warmed39 U.vm ∧ U.heap = h0) (fun _ _ _ _ _ => True) (fun _ U o U' => ∃ v L, o = .returned v ∧ Q1 Z n d h0 n0 v U'.heap L ∧ FrameEnd U o U' L ({ frames := 0, cells := 0, slots := 0, locals := 0 } : Room).cells ({ frames := 0, cells := 0, slots := 0, locals := 0 } : Room).slots) := by
  refine own_met (Q := fun v h L => Q1 Z n d h0 n0 v h L) (plainFor_of_name pn_0) ?_
  intro p e s m below meth c s₁ hx hby hml hret hlk hown hnm hZ X0 e0
  have N0 := Fr.nil n0
  rw [ef_1 m n d]
  show OwnG p e below s _ _ _ (s₁.setTop (mkF m 0 #[.val (.long n), .second, .val (.long d), .second, .unset, .unset, .unset, .unset] []))
  refine own_by (fun t kk_ => XS.lloadN X0.here hx rfl (hb hby d1_0) rfl  kk_) ?_
  show OwnG p e below s _ _ _ (s₁.setTop (mkF m 1 #[.val (.long n), .second, .val (.long d), .second, .unset, .unset, .unset, .unset] [(.long n)]))
  refine own_by (fun t kk_ => XS.lloadN X0.here hx rfl (hb hby d1_1) rfl  kk_) ?_
  show OwnG p e below s _ _ _ (s₁.setTop (mkF m 2 #[.val (.long n), .second, .val (.long d), .second, .unset, .unset, .unset, .unset] [(.long d), (.long n)]))
  refine own_by (fun t kk_ => XS.ldiv X0.here hx rfl (hb hby d1_2) rfl (own_nz hd) kk_) ?_
  show OwnG p e below s _ _ _ (s₁.setTop (mkF m 3 #[.val (.long n), .second, .val (.long d), .second, .unset, .unset, .unset, .unset] [(.long (n / d))]))
  refine own_by (fun t kk_ => XS.lstore X0.here hx rfl (hb hby d1_3) rfl (l' := #[.val (.long n), .second, .val (.long d), .second, .val (.long (n / d)), .second, .unset, .unset]) rfl kk_) ?_
  show OwnG p e below s _ _ _ (s₁.setTop (mkF m 5 #[.val (.long n), .second, .val (.long d), .second, .val (.long (n / d)), .second, .unset, .unset] []))
  refine own_by (fun t kk_ => XS.lloadN X0.here hx rfl (hb hby d1_5) rfl  kk_) ?_
  show OwnG p e below s _ _ _ (s₁.setTop (mkF m 6 #[.val (.long n), .second, .val (.long d), .second, .val (.long (n / d)), .second, .unset, .unset] [(.long n)]))
  refine own_by (fun t kk_ => XS.lloadN X0.here hx rfl (hb hby d1_6) rfl  kk_) ?_
  show OwnG p e below s _ _ _ (s₁.setTop (mkF m 7 #[.val (.long n), .second, .val (.long d), .second, .val (.long (n / d)), .second, .unset, .unset] [(.long d), (.long n)]))
  refine own_by (fun t kk_ => XS.lrem X0.here hx rfl (hb hby d1_7) rfl (own_nz hd) kk_) ?_
  show OwnG p e below s _ _ _ (s₁.setTop (mkF m 8 #[.val (.long n), .second, .val (.long d), .second, .val (.long (n / d)), .second, .unset, .unset] [(.long (n - (n / d) * d))]))
  refine own_by (fun t kk_ => XS.lstore X0.here hx rfl (hb hby d1_8) rfl (l' := #[.val (.long n), .second, .val (.long d), .second, .val (.long (n / d)), .second, .val (.long (n - (n / d) * d)), .second]) rfl kk_) ?_
  show OwnG p e below s _ _ _ (s₁.setTop (mkF m 10 #[.val (.long n), .second, .val (.long d), .second, .val (.long (n / d)), .second, .val (.long (n - (n / d) * d)), .second] []))
  refine own_by (fun t kk_ => XS.lload X0.here hx rfl (hb hby d1_10) rfl  kk_) ?_
  show OwnG p e below s _ _ _ (s₁.setTop (mkF m 12 #[.val (.long n), .second, .val (.long d), .second, .val (.long (n / d)), .second, .val (.long (n - (n / d) * d)), .second] [(.long (n - (n / d) * d))]))
  refine own_by (fun t kk_ => XS.lloadN X0.here hx rfl (hb hby d1_12) rfl  kk_) ?_
  show OwnG p e below s _ _ _ (s₁.setTop (mkF m 13 #[.val (.long n), .second, .val (.long d), .second, .val (.long (n / d)), .second, .val (.long (n - (n / d) * d)), .second] [(.long d), (.long (n - (n / d) * d))]))
  refine own_by (fun t kk_ => XS.lload X0.here hx rfl (hb hby d1_13) rfl  kk_) ?_
  show OwnG p e below s _ _ _ (s₁.setTop (mkF m 15 #[.val (.long n), .second, .val (.long d), .second, .val (.long (n / d)), .second, .val (.long (n - (n / d) * d)), .second] [(.long (n - (n / d) * d)), (.long d), (.long (n - (n / d) * d))]))
  refine own_by (fun t kk_ => XS.lsub X0.here hx rfl (hb hby d1_15) rfl kk_) ?_
  show OwnG p e below s _ _ _ (s₁.setTop (mkF m 16 #[.val (.long n), .second, .val (.long d), .second, .val (.long (n / d)), .second, .val (.long (n - (n / d) * d)), .second] [(.long (d - (n - (n / d) * d))), (.long (n - (n / d) * d))]))
  refine own_by (fun t kk_ => XS.lcmp X0.here hx rfl (hb hby d1_16) rfl kk_) ?_
  show OwnG p e below s _ _ _ (s₁.setTop (mkF m 17 #[.val (.long n), .second, .val (.long d), .second, .val (.long (n / d)), .second, .val (.long (n - (n / d) * d)), .second] [(.int (lcmpW (n - (n / d) * d) (d - (n - (n / d) * d))))]))
  by_cases hb17_1 : (n - (n / d) * d) < (d - (n - (n / d) * d))
  · refine own_by (fun t kk_ => XS.ifYes X0.here hx rfl (pc0 := 17) (pc' := 26) rfl (hb hby d1_17) rfl ((if0 _ _).trans (tlt ((lw_lt _ _).mpr hb17_1)).1) (by decide) (by decide) kk_) ?_
    show OwnG p e below s _ _ _ (s₁.setTop (mkF m 26 #[.val (.long n), .second, .val (.long d), .second, .val (.long (n / d)), .second, .val (.long (n - (n / d) * d)), .second] []))
    refine own_by (fun t kk_ => XS.lload X0.here hx rfl (hb hby d1_26) rfl  kk_) ?_
    show OwnG p e below s _ _ _ (s₁.setTop (mkF m 28 #[.val (.long n), .second, .val (.long d), .second, .val (.long (n / d)), .second, .val (.long (n - (n / d) * d)), .second] [(.long (n / d))]))
    exact own_outL X0 hx hret hlk (hb hby d1_28) (⟨⟨_, rfl, Or.inl ⟨rfl, hb17_1⟩⟩, N0, e0⟩) (by decide) (by decide)
  · refine own_by (fun t kk_ => XS.ifNo X0.here hx rfl (hb hby d1_17) rfl ((if0 _ _).trans (flt (fun q => hb17_1 ((lw_lt _ _).mp q))).1) kk_) ?_
    show OwnG p e below s _ _ _ (s₁.setTop (mkF m 20 #[.val (.long n), .second, .val (.long d), .second, .val (.long (n / d)), .second, .val (.long (n - (n / d) * d)), .second] []))
    refine own_by (fun t kk_ => XS.lload X0.here hx rfl (hb hby d1_20) rfl  kk_) ?_
    show OwnG p e below s _ _ _ (s₁.setTop (mkF m 22 #[.val (.long n), .second, .val (.long d), .second, .val (.long (n / d)), .second, .val (.long (n - (n / d) * d)), .second] [(.long (n / d))]))
    refine own_by (fun t kk_ => XS.lconst X0.here hx rfl (hb hby d1_22) kk_) ?_
    show OwnG p e below s _ _ _ (s₁.setTop (mkF m 23 #[.val (.long n), .second, .val (.long d), .second, .val (.long (n / d)), .second, .val (.long (n - (n / d) * d)), .second] [(.long (1 : Int64)), (.long (n / d))]))
    refine own_by (fun t kk_ => XS.ladd X0.here hx rfl (hb hby d1_23) rfl kk_) ?_
    show OwnG p e below s _ _ _ (s₁.setTop (mkF m 24 #[.val (.long n), .second, .val (.long d), .second, .val (.long (n / d)), .second, .val (.long (n - (n / d) * d)), .second] [(.long ((n / d) + (1 : Int64)))]))
    refine own_by (fun t kk_ => XS.lstore X0.here hx rfl (hb hby d1_24) rfl (l' := #[.val (.long n), .second, .val (.long d), .second, .val (.long ((n / d) + (1 : Int64))), .second, .val (.long (n - (n / d) * d)), .second]) rfl kk_) ?_
    show OwnG p e below s _ _ _ (s₁.setTop (mkF m 26 #[.val (.long n), .second, .val (.long d), .second, .val (.long ((n / d) + (1 : Int64))), .second, .val (.long (n - (n / d) * d)), .second] []))
    refine own_by (fun t kk_ => XS.lload X0.here hx rfl (hb hby d1_26) rfl  kk_) ?_
    show OwnG p e below s _ _ _ (s₁.setTop (mkF m 28 #[.val (.long n), .second, .val (.long d), .second, .val (.long ((n / d) + (1 : Int64))), .second, .val (.long (n - (n / d) * d)), .second] [(.long ((n / d) + (1 : Int64)))]))
    exact own_outL X0 hx hret hlk (hb hby d1_28) (⟨⟨_, rfl, Or.inr ⟨rfl, hb17_1⟩⟩, N0, e0⟩) (by decide) (by decide)
theorem pn_1 : plainName "com/example/gasholder/gasholder/FractionNearestPinLaw" = true := by first | (simp [plainName, overriddenIn]; done) | decide +kernel
theorem pd_0 : parseMethodDescriptor "(JJ)J" = some ⟨[.long, .long], some .long⟩ := by decide +kernel
theorem ef_0 (m : MethodId) (x0 : Int64) (x1 : Int64) : entryFrame m #[(.long x0), (.long x1)] maxLocals = mkF m 0 #[.val (.long x0), .second, .val (.long x1), .second, .unset, .unset, .unset, .unset, .unset, .unset, .unset, .unset, .unset, .unset] [] := by first | (simp [entryFrame, mkF, argsToLocals, Value.category, maxLocals]; done) | rfl
def Q0 (Z : State) (p1 p2 : Int64) (h0 : Heap) (n0 : Nat) (v : Option Value) (h : Heap) (L : List Loc) : Prop := v = some (.int (1 : Int32)) ∧ Fr n0 L
set_option maxRecDepth 65536 in
set_option maxHeartbeats 40000000 in
theorem rm0 (l : Launch) (Z : State) (a0 : Array Value) (hw : ∀ d ∈ tables_1, d.before a0 Z = true) (ws : List Jvm.Cond) (p1 p2 : Int64) (h0 : Heap) (n0 : Nat) (Z0 : n0 ≤ h0.size) :
    MetFree l x (head1 (Jvm.Cond.code x code maxLocals ret :: ws) room_1) (fun a U => a = #[(.long p1), (.long p2)] ∧ Z.Warmed39 U.vm ∧ U.heap = h0) (fun _ _ _ _ _ => True) (fun _ U o U' => ∃ v L, o = .returned v ∧ Q0 Z p1 p2 h0 n0 v U'.heap L ∧ FrameEnd U o U' L room_1.cells room_1.slots) := by
  refine own_met (Q := fun v h L => Q0 Z p1 p2 h0 n0 v h L) (plainFor_of_name pn_1) ?_
  intro p e s m below meth c s₁ hx hby hml hret hlk hown hnm hZ X0 e0
  have N0 := Fr.nil n0
  rw [ef_0 m p1 p2]
  show OwnG p e below s _ _ _ (s₁.setTop (mkF m 0 #[.val (.long p1), .second, .val (.long p2), .second, .unset, .unset, .unset, .unset, .unset, .unset, .unset, .unset, .unset, .unset] []))
  refine own_by (fun t kk_ => XS.lloadN X0.here hx rfl (hb hby at_0) rfl  kk_) ?_
  show OwnG p e below s _ _ _ (s₁.setTop (mkF m 1 #[.val (.long p1), .second, .val (.long p2), .second, .unset, .unset, .unset, .unset, .unset, .unset, .unset, .unset, .unset, .unset] [(.long p1)]))
  refine own_by (fun t kk_ => X0.ldc2Long hx hown (mvT hZ (hw _ (List.mem_of_getElem? (i := 0) rfl))) (g := (mkF m 1 #[.val (.long p1), .second, .val (.long p2), .second, .unset, .unset, .unset, .unset, .unset, .unset, .unset, .unset, .unset, .unset] [(.long p1)])) rfl (hb hby at_1) _ kk_) ?_
  show OwnG p e below s _ _ _ (s₁.setTop (mkF m 4 #[.val (.long p1), .second, .val (.long p2), .second, .unset, .unset, .unset, .unset, .unset, .unset, .unset, .unset, .unset, .unset] [(.long (9223372036854775807 : Int64)), (.long p1)]))
  refine own_by (fun t kk_ => XS.land X0.here hx rfl (hb hby at_4) rfl kk_) ?_
  show OwnG p e below s _ _ _ (s₁.setTop (mkF m 5 #[.val (.long p1), .second, .val (.long p2), .second, .unset, .unset, .unset, .unset, .unset, .unset, .unset, .unset, .unset, .unset] [(.long (p1 &&& (9223372036854775807 : Int64)))]))
  generalize h_n : (p1 &&& (9223372036854775807 : Int64)) = n
  show OwnG p e below s _ _ _ (s₁.setTop (mkF m 5 #[.val (.long p1), .second, .val (.long p2), .second, .unset, .unset, .unset, .unset, .unset, .unset, .unset, .unset, .unset, .unset] [(.long n)]))
  refine own_by (fun t kk_ => XS.lstore X0.here hx rfl (hb hby at_5) rfl (l' := #[.val (.long p1), .second, .val (.long p2), .second, .val (.long n), .second, .unset, .unset, .unset, .unset, .unset, .unset, .unset, .unset]) rfl kk_) ?_
  show OwnG p e below s _ _ _ (s₁.setTop (mkF m 7 #[.val (.long p1), .second, .val (.long p2), .second, .val (.long n), .second, .unset, .unset, .unset, .unset, .unset, .unset, .unset, .unset] []))
  refine own_by (fun t kk_ => XS.lloadN X0.here hx rfl (hb hby at_7) rfl  kk_) ?_
  show OwnG p e below s _ _ _ (s₁.setTop (mkF m 8 #[.val (.long p1), .second, .val (.long p2), .second, .val (.long n), .second, .unset, .unset, .unset, .unset, .unset, .unset, .unset, .unset] [(.long p2)]))
  refine own_by (fun t kk_ => X0.ldc2Long hx hown (mvT hZ (hw _ (List.mem_of_getElem? (i := 0) rfl))) (g := (mkF m 8 #[.val (.long p1), .second, .val (.long p2), .second, .val (.long n), .second, .unset, .unset, .unset, .unset, .unset, .unset, .unset, .unset] [(.long p2)])) rfl (hb hby at_8) _ kk_) ?_
  show OwnG p e below s _ _ _ (s₁.setTop (mkF m 11 #[.val (.long p1), .second, .val (.long p2), .second, .val (.long n), .second, .unset, .unset, .unset, .unset, .unset, .unset, .unset, .unset] [(.long (9223372036854775807 : Int64)), (.long p2)]))
  refine own_by (fun t kk_ => XS.land X0.here hx rfl (hb hby at_11) rfl kk_) ?_
  show OwnG p e below s _ _ _ (s₁.setTop (mkF m 12 #[.val (.long p1), .second, .val (.long p2), .second, .val (.long n), .second, .unset, .unset, .unset, .unset, .unset, .unset, .unset, .unset] [(.long (p2 &&& (9223372036854775807 : Int64)))]))
  generalize h_d : (p2 &&& (9223372036854775807 : Int64)) = d
  show OwnG p e below s _ _ _ (s₁.setTop (mkF m 12 #[.val (.long p1), .second, .val (.long p2), .second, .val (.long n), .second, .unset, .unset, .unset, .unset, .unset, .unset, .unset, .unset] [(.long d)]))
  refine own_by (fun t kk_ => XS.lstore X0.here hx rfl (hb hby at_12) rfl (l' := #[.val (.long p1), .second, .val (.long p2), .second, .val (.long n), .second, .val (.long d), .second, .unset, .unset, .unset, .unset, .unset, .unset]) rfl kk_) ?_
  show OwnG p e below s _ _ _ (s₁.setTop (mkF m 14 #[.val (.long p1), .second, .val (.long p2), .second, .val (.long n), .second, .val (.long d), .second, .unset, .unset, .unset, .unset, .unset, .unset] []))
  refine own_by (fun t kk_ => XS.lload X0.here hx rfl (hb hby at_14) rfl  kk_) ?_
  show OwnG p e below s _ _ _ (s₁.setTop (mkF m 16 #[.val (.long p1), .second, .val (.long p2), .second, .val (.long n), .second, .val (.long d), .second, .unset, .unset, .unset, .unset, .unset, .unset] [(.long d)]))
  refine own_by (fun t kk_ => XS.lconst X0.here hx rfl (hb hby at_16) kk_) ?_
  show OwnG p e below s _ _ _ (s₁.setTop (mkF m 17 #[.val (.long p1), .second, .val (.long p2), .second, .val (.long n), .second, .val (.long d), .second, .unset, .unset, .unset, .unset, .unset, .unset] [(.long (0 : Int64)), (.long d)]))
  refine own_by (fun t kk_ => XS.lcmp X0.here hx rfl (hb hby at_17) rfl kk_) ?_
  show OwnG p e below s _ _ _ (s₁.setTop (mkF m 18 #[.val (.long p1), .second, .val (.long p2), .second, .val (.long n), .second, .val (.long d), .second, .unset, .unset, .unset, .unset, .unset, .unset] [(.int (lcmpW d (0 : Int64)))]))
  by_cases hb18_1 : d = (0 : Int64)
  · have hd := own_one
    refine own_by (fun t kk_ => XS.ifNo X0.here hx rfl (hb hby at_18) rfl ((if0 _ _).trans (teq ((lw_eq _ _).mpr hb18_1)).2) kk_) ?_
    show OwnG p e below s _ _ _ (s₁.setTop (mkF m 21 #[.val (.long p1), .second, .val (.long p2), .second, .val (.long n), .second, .val (.long d), .second, .unset, .unset, .unset, .unset, .unset, .unset] []))
    refine own_by (fun t kk_ => XS.lconst X0.here hx rfl (hb hby at_21) kk_) ?_
    show OwnG p e below s _ _ _ (s₁.setTop (mkF m 22 #[.val (.long p1), .second, .val (.long p2), .second, .val (.long n), .second, .val (.long d), .second, .unset, .unset, .unset, .unset, .unset, .unset] [(.long (1 : Int64))]))
    refine own_by (fun t kk_ => XS.lstore X0.here hx rfl (hb hby at_22) rfl (l' := #[.val (.long p1), .second, .val (.long p2), .second, .val (.long n), .second, .val (.long (1 : Int64)), .second, .unset, .unset, .unset, .unset, .unset, .unset]) rfl kk_) ?_
    show OwnG p e below s _ _ _ (s₁.setTop (mkF m 24 #[.val (.long p1), .second, .val (.long p2), .second, .val (.long n), .second, .val (.long (1 : Int64)), .second, .unset, .unset, .unset, .unset, .unset, .unset] []))
    refine own_by (fun t kk_ => XS.lload X0.here hx rfl (hb hby at_24) rfl  kk_) ?_
    show OwnG p e below s _ _ _ (s₁.setTop (mkF m 26 #[.val (.long p1), .second, .val (.long p2), .second, .val (.long n), .second, .val (.long (1 : Int64)), .second, .unset, .unset, .unset, .unset, .unset, .unset] [(.long n)]))
    refine own_by (fun t kk_ => XS.lload X0.here hx rfl (hb hby at_26) rfl  kk_) ?_
    show OwnG p e below s _ _ _ (s₁.setTop (mkF m 28 #[.val (.long p1), .second, .val (.long p2), .second, .val (.long n), .second, .val (.long (1 : Int64)), .second, .unset, .unset, .unset, .unset, .unset, .unset] [(.long (1 : Int64)), (.long n)]))
    obtain ⟨_, _, ⟨T2, L2, k2, n2⟩, -, X2, ⟨Lc2, hQ2, l2, y2, z2⟩, st2⟩ := Jvm.LawKit.callS X0 hx (y := (⟨"com/example/gasholder/gasholder/Fraction", "nearest", "(JJ)J"⟩ : MethodName)) hown (mvT hZ (hw _ (List.mem_of_getElem? (i := 1) rfl))) (mvT hZ (hw _ (List.mem_of_getElem? (i := 2) rfl))) (mvT hZ (hw _ (List.mem_of_getElem? (i := 3) rfl))) (mvT hZ (hw _ (List.mem_of_getElem? (i := 4) rfl))) (by decide) (backOf (W := 0) (rm1 l Z a0 hw [] n (1 : Int64) h0 n0 Z0 hd) hZ (hw _ (List.mem_of_getElem? (i := 4) rfl)) (hw _ (List.mem_of_getElem? (i := 3) rfl)) (by decide) (by decide)) (g := (mkF m 28 #[.val (.long p1), .second, .val (.long p2), .second, .val (.long n), .second, .val (.long (1 : Int64)), .second, .unset, .unset, .unset, .unset, .unset, .unset] [(.long (1 : Int64)), (.long n)])) rfl (by rw [hml]; rfl) (argsL := [(.long n), (.long (1 : Int64))]) (rest := []) (lenOf pd_0 rfl) rfl (by show 2 * 0 + _ ≤ _; exact Nat.le_of_eq rfl) (hb hby at_28) (fun _ _ => ⟨rfl, e0, (by decide : 0 + 0 ≤ _), (by decide : 0 + 0 ≤ _)⟩)
    dsimp only [Pt.U, Pt.locs, Pt.cells, Pt.slots] at X2 l2 y2 z2 st2 hQ2
    subst l2 y2 z2
    refine own_by (fun t kk_ => st2 _ kk_) ?_
    obtain ⟨⟨r, rfl, hr⟩, N2q, hh2⟩ := hQ2
    have N2 := Fr.app N0 N2q
    have sz2 : n0 ≤ T2.heap.size := by rw [hh2]; exact Z0
    show OwnG p e below s _ _ _ (T2.setTop (mkF m 31 #[.val (.long p1), .second, .val (.long p2), .second, .val (.long n), .second, .val (.long (1 : Int64)), .second, .unset, .unset, .unset, .unset, .unset, .unset] [(.long r)]))
    refine own_by (fun t kk_ => XS.lstore X2.here hx rfl (hb hby at_31) rfl (l' := #[.val (.long p1), .second, .val (.long p2), .second, .val (.long n), .second, .val (.long (1 : Int64)), .second, .val (.long r), .second, .unset, .unset, .unset, .unset]) rfl kk_) ?_
    show OwnG p e below s _ _ _ (T2.setTop (mkF m 33 #[.val (.long p1), .second, .val (.long p2), .second, .val (.long n), .second, .val (.long (1 : Int64)), .second, .val (.long r), .second, .unset, .unset, .unset, .unset] []))
    refine own_by (fun t kk_ => XS.lload X2.here hx rfl (hb hby at_33) rfl  kk_) ?_
    show OwnG p e below s _ _ _ (T2.setTop (mkF m 35 #[.val (.long p1), .second, .val (.long p2), .second, .val (.long n), .second, .val (.long (1 : Int64)), .second, .val (.long r), .second, .unset, .unset, .unset, .unset] [(.long n)]))
    refine own_by (fun t kk_ => XS.lload X2.here hx rfl (hb hby at_35) rfl  kk_) ?_
    show OwnG p e below s _ _ _ (T2.setTop (mkF m 37 #[.val (.long p1), .second, .val (.long p2), .second, .val (.long n), .second, .val (.long (1 : Int64)), .second, .val (.long r), .second, .unset, .unset, .unset, .unset] [(.long (1 : Int64)), (.long n)]))
    refine own_by (fun t kk_ => XS.ldiv X2.here hx rfl (hb hby at_37) rfl (own_nz hd) kk_) ?_
    show OwnG p e below s _ _ _ (T2.setTop (mkF m 38 #[.val (.long p1), .second, .val (.long p2), .second, .val (.long n), .second, .val (.long (1 : Int64)), .second, .val (.long r), .second, .unset, .unset, .unset, .unset] [(.long (n / (1 : Int64)))]))
    generalize h_q : (n / (1 : Int64)) = q
    show OwnG p e below s _ _ _ (T2.setTop (mkF m 38 #[.val (.long p1), .second, .val (.long p2), .second, .val (.long n), .second, .val (.long (1 : Int64)), .second, .val (.long r), .second, .unset, .unset, .unset, .unset] [(.long q)]))
    refine own_by (fun t kk_ => XS.lstore X2.here hx rfl (hb hby at_38) rfl (l' := #[.val (.long p1), .second, .val (.long p2), .second, .val (.long n), .second, .val (.long (1 : Int64)), .second, .val (.long r), .second, .val (.long q), .second, .unset, .unset]) rfl kk_) ?_
    show OwnG p e below s _ _ _ (T2.setTop (mkF m 40 #[.val (.long p1), .second, .val (.long p2), .second, .val (.long n), .second, .val (.long (1 : Int64)), .second, .val (.long r), .second, .val (.long q), .second, .unset, .unset] []))
    refine own_by (fun t kk_ => XS.lload X2.here hx rfl (hb hby at_40) rfl  kk_) ?_
    show OwnG p e below s _ _ _ (T2.setTop (mkF m 42 #[.val (.long p1), .second, .val (.long p2), .second, .val (.long n), .second, .val (.long (1 : Int64)), .second, .val (.long r), .second, .val (.long q), .second, .unset, .unset] [(.long r)]))
    refine own_by (fun t kk_ => XS.lload X2.here hx rfl (hb hby at_42) rfl  kk_) ?_
    show OwnG p e below s _ _ _ (T2.setTop (mkF m 44 #[.val (.long p1), .second, .val (.long p2), .second, .val (.long n), .second, .val (.long (1 : Int64)), .second, .val (.long r), .second, .val (.long q), .second, .unset, .unset] [(.long q), (.long r)]))
    refine own_by (fun t kk_ => XS.lcmp X2.here hx rfl (hb hby at_44) rfl kk_) ?_
    show OwnG p e below s _ _ _ (T2.setTop (mkF m 45 #[.val (.long p1), .second, .val (.long p2), .second, .val (.long n), .second, .val (.long (1 : Int64)), .second, .val (.long r), .second, .val (.long q), .second, .unset, .unset] [(.int (lcmpW r q))]))
    by_cases hrq : r = q
    · refine own_by (fun t kk_ => XS.ifYes X2.here hx rfl (pc0 := 45) (pc' := 60) rfl (hb hby at_45) rfl ((if0 _ _).trans (teq ((lw_eq _ _).mpr hrq)).1) (by decide) (by decide) kk_) ?_
      show OwnG p e below s _ _ _ (T2.setTop (mkF m 60 #[.val (.long p1), .second, .val (.long p2), .second, .val (.long n), .second, .val (.long (1 : Int64)), .second, .val (.long r), .second, .val (.long q), .second, .unset, .unset] []))
      refine own_by (fun t kk_ => XS.lload X2.here hx rfl (hb hby at_60) rfl  kk_) ?_
      show OwnG p e below s _ _ _ (T2.setTop (mkF m 62 #[.val (.long p1), .second, .val (.long p2), .second, .val (.long n), .second, .val (.long (1 : Int64)), .second, .val (.long r), .second, .val (.long q), .second, .unset, .unset] [(.long n)]))
      refine own_by (fun t kk_ => XS.lload X2.here hx rfl (hb hby at_62) rfl  kk_) ?_
      show OwnG p e below s _ _ _ (T2.setTop (mkF m 64 #[.val (.long p1), .second, .val (.long p2), .second, .val (.long n), .second, .val (.long (1 : Int64)), .second, .val (.long r), .second, .val (.long q), .second, .unset, .unset] [(.long r), (.long n)]))
      refine own_by (fun t kk_ => XS.lload X2.here hx rfl (hb hby at_64) rfl  kk_) ?_
      show OwnG p e below s _ _ _ (T2.setTop (mkF m 66 #[.val (.long p1), .second, .val (.long p2), .second, .val (.long n), .second, .val (.long (1 : Int64)), .second, .val (.long r), .second, .val (.long q), .second, .unset, .unset] [(.long (1 : Int64)), (.long r), (.long n)]))
      refine own_by (fun t kk_ => XS.lmul X2.here hx rfl (hb hby at_66) rfl kk_) ?_
      show OwnG p e below s _ _ _ (T2.setTop (mkF m 67 #[.val (.long p1), .second, .val (.long p2), .second, .val (.long n), .second, .val (.long (1 : Int64)), .second, .val (.long r), .second, .val (.long q), .second, .unset, .unset] [(.long (r * (1 : Int64))), (.long n)]))
      refine own_by (fun t kk_ => XS.lsub X2.here hx rfl (hb hby at_67) rfl kk_) ?_
      show OwnG p e below s _ _ _ (T2.setTop (mkF m 68 #[.val (.long p1), .second, .val (.long p2), .second, .val (.long n), .second, .val (.long (1 : Int64)), .second, .val (.long r), .second, .val (.long q), .second, .unset, .unset] [(.long (n - (r * (1 : Int64))))]))
      generalize h_x : (n - (r * (1 : Int64))) = x
      show OwnG p e below s _ _ _ (T2.setTop (mkF m 68 #[.val (.long p1), .second, .val (.long p2), .second, .val (.long n), .second, .val (.long (1 : Int64)), .second, .val (.long r), .second, .val (.long q), .second, .unset, .unset] [(.long x)]))
      refine own_by (fun t kk_ => XS.lstore X2.here hx rfl (hb hby at_68) rfl (l' := #[.val (.long p1), .second, .val (.long p2), .second, .val (.long n), .second, .val (.long (1 : Int64)), .second, .val (.long r), .second, .val (.long q), .second, .val (.long x), .second]) rfl kk_) ?_
      show OwnG p e below s _ _ _ (T2.setTop (mkF m 70 #[.val (.long p1), .second, .val (.long p2), .second, .val (.long n), .second, .val (.long (1 : Int64)), .second, .val (.long r), .second, .val (.long q), .second, .val (.long x), .second] []))
      refine own_by (fun t kk_ => XS.lload X2.here hx rfl (hb hby at_70) rfl  kk_) ?_
      show OwnG p e below s _ _ _ (T2.setTop (mkF m 72 #[.val (.long p1), .second, .val (.long p2), .second, .val (.long n), .second, .val (.long (1 : Int64)), .second, .val (.long r), .second, .val (.long q), .second, .val (.long x), .second] [(.long x)]))
      refine own_by (fun t kk_ => XS.lconst X2.here hx rfl (hb hby at_72) kk_) ?_
      show OwnG p e below s _ _ _ (T2.setTop (mkF m 73 #[.val (.long p1), .second, .val (.long p2), .second, .val (.long n), .second, .val (.long (1 : Int64)), .second, .val (.long r), .second, .val (.long q), .second, .val (.long x), .second] [(.long (0 : Int64)), (.long x)]))
      refine own_by (fun t kk_ => XS.lcmp X2.here hx rfl (hb hby at_73) rfl kk_) ?_
      show OwnG p e below s _ _ _ (T2.setTop (mkF m 74 #[.val (.long p1), .second, .val (.long p2), .second, .val (.long n), .second, .val (.long (1 : Int64)), .second, .val (.long r), .second, .val (.long q), .second, .val (.long x), .second] [(.int (lcmpW x (0 : Int64)))]))
      by_cases hx0 : x < (0 : Int64)
      · refine own_by (fun t kk_ => XS.ifYes X2.here hx rfl (pc0 := 74) (pc' := 94) rfl (hb hby at_74) rfl ((if0 _ _).trans (tlt ((lw_lt _ _).mpr hx0)).1) (by decide) (by decide) kk_) ?_
        show OwnG p e below s _ _ _ (T2.setTop (mkF m 94 #[.val (.long p1), .second, .val (.long p2), .second, .val (.long n), .second, .val (.long (1 : Int64)), .second, .val (.long r), .second, .val (.long q), .second, .val (.long x), .second] []))
        refine own_by (fun t kk_ => XS.lload X2.here hx rfl (hb hby at_94) rfl  kk_) ?_
        show OwnG p e below s _ _ _ (T2.setTop (mkF m 96 #[.val (.long p1), .second, .val (.long p2), .second, .val (.long n), .second, .val (.long (1 : Int64)), .second, .val (.long r), .second, .val (.long q), .second, .val (.long x), .second] [(.long x)]))
        refine own_by (fun t kk_ => XS.lneg X2.here hx rfl (hb hby at_96) rfl kk_) ?_
        show OwnG p e below s _ _ _ (T2.setTop (mkF m 97 #[.val (.long p1), .second, .val (.long p2), .second, .val (.long n), .second, .val (.long (1 : Int64)), .second, .val (.long r), .second, .val (.long q), .second, .val (.long x), .second] [(.long (-x))]))
        refine own_by (fun t kk_ => XS.lload X2.here hx rfl (hb hby at_97) rfl  kk_) ?_
        show OwnG p e below s _ _ _ (T2.setTop (mkF m 99 #[.val (.long p1), .second, .val (.long p2), .second, .val (.long n), .second, .val (.long (1 : Int64)), .second, .val (.long r), .second, .val (.long q), .second, .val (.long x), .second] [(.long (1 : Int64)), (.long (-x))]))
        refine own_by (fun t kk_ => XS.lload X2.here hx rfl (hb hby at_99) rfl  kk_) ?_
        show OwnG p e below s _ _ _ (T2.setTop (mkF m 101 #[.val (.long p1), .second, .val (.long p2), .second, .val (.long n), .second, .val (.long (1 : Int64)), .second, .val (.long r), .second, .val (.long q), .second, .val (.long x), .second] [(.long x), (.long (1 : Int64)), (.long (-x))]))
        refine own_by (fun t kk_ => XS.ladd X2.here hx rfl (hb hby at_101) rfl kk_) ?_
        show OwnG p e below s _ _ _ (T2.setTop (mkF m 102 #[.val (.long p1), .second, .val (.long p2), .second, .val (.long n), .second, .val (.long (1 : Int64)), .second, .val (.long r), .second, .val (.long q), .second, .val (.long x), .second] [(.long ((1 : Int64) + x)), (.long (-x))]))
        refine own_by (fun t kk_ => XS.lcmp X2.here hx rfl (hb hby at_102) rfl kk_) ?_
        show OwnG p e below s _ _ _ (T2.setTop (mkF m 103 #[.val (.long p1), .second, .val (.long p2), .second, .val (.long n), .second, .val (.long (1 : Int64)), .second, .val (.long r), .second, .val (.long q), .second, .val (.long x), .second] [(.int (lcmpW (-x) ((1 : Int64) + x)))]))
        refine own_by (fun t kk_ => XS.ifNo X2.here hx rfl (hb hby at_103) rfl ((if0 _ _).trans (flt (fun q => (own_L3 (own_nn h_n) hd hr h_x hx0) ((lw_gt _ _).mp q))).2.2.1) kk_) ?_
        show OwnG p e below s _ _ _ (T2.setTop (mkF m 106 #[.val (.long p1), .second, .val (.long p2), .second, .val (.long n), .second, .val (.long (1 : Int64)), .second, .val (.long r), .second, .val (.long q), .second, .val (.long x), .second] []))
        refine own_by (fun t kk_ => XS.iconst X2.here hx rfl (hb hby at_106) kk_) ?_
        show OwnG p e below s _ _ _ (T2.setTop (mkF m 107 #[.val (.long p1), .second, .val (.long p2), .second, .val (.long n), .second, .val (.long (1 : Int64)), .second, .val (.long r), .second, .val (.long q), .second, .val (.long x), .second] [(.int (1 : Int32))]))
        refine own_by (fun t kk_ => XS.goto X2.here hx rfl (pc0 := 107) (pc' := 111) rfl (hb hby at_107) (by decide) (by decide) kk_) ?_
        show OwnG p e below s _ _ _ (T2.setTop (mkF m 111 #[.val (.long p1), .second, .val (.long p2), .second, .val (.long n), .second, .val (.long (1 : Int64)), .second, .val (.long r), .second, .val (.long q), .second, .val (.long x), .second] [(.int (1 : Int32))]))
        exact own_outN X2 hx hret (by simp) hlk (hb hby at_111) rfl (⟨rfl, N2⟩) (by decide) (by decide)
      · refine own_by (fun t kk_ => XS.ifNo X2.here hx rfl (hb hby at_74) rfl ((if0 _ _).trans (flt (fun q => hx0 ((lw_lt _ _).mp q))).1) kk_) ?_
        show OwnG p e below s _ _ _ (T2.setTop (mkF m 77 #[.val (.long p1), .second, .val (.long p2), .second, .val (.long n), .second, .val (.long (1 : Int64)), .second, .val (.long r), .second, .val (.long q), .second, .val (.long x), .second] []))
        refine own_by (fun t kk_ => XS.lload X2.here hx rfl (hb hby at_77) rfl  kk_) ?_
        show OwnG p e below s _ _ _ (T2.setTop (mkF m 79 #[.val (.long p1), .second, .val (.long p2), .second, .val (.long n), .second, .val (.long (1 : Int64)), .second, .val (.long r), .second, .val (.long q), .second, .val (.long x), .second] [(.long x)]))
        refine own_by (fun t kk_ => XS.lload X2.here hx rfl (hb hby at_79) rfl  kk_) ?_
        show OwnG p e below s _ _ _ (T2.setTop (mkF m 81 #[.val (.long p1), .second, .val (.long p2), .second, .val (.long n), .second, .val (.long (1 : Int64)), .second, .val (.long r), .second, .val (.long q), .second, .val (.long x), .second] [(.long (1 : Int64)), (.long x)]))
        refine own_by (fun t kk_ => XS.lload X2.here hx rfl (hb hby at_81) rfl  kk_) ?_
        show OwnG p e below s _ _ _ (T2.setTop (mkF m 83 #[.val (.long p1), .second, .val (.long p2), .second, .val (.long n), .second, .val (.long (1 : Int64)), .second, .val (.long r), .second, .val (.long q), .second, .val (.long x), .second] [(.long x), (.long (1 : Int64)), (.long x)]))
        refine own_by (fun t kk_ => XS.lsub X2.here hx rfl (hb hby at_83) rfl kk_) ?_
        show OwnG p e below s _ _ _ (T2.setTop (mkF m 84 #[.val (.long p1), .second, .val (.long p2), .second, .val (.long n), .second, .val (.long (1 : Int64)), .second, .val (.long r), .second, .val (.long q), .second, .val (.long x), .second] [(.long ((1 : Int64) - x)), (.long x)]))
        refine own_by (fun t kk_ => XS.lcmp X2.here hx rfl (hb hby at_84) rfl kk_) ?_
        show OwnG p e below s _ _ _ (T2.setTop (mkF m 85 #[.val (.long p1), .second, .val (.long p2), .second, .val (.long n), .second, .val (.long (1 : Int64)), .second, .val (.long r), .second, .val (.long q), .second, .val (.long x), .second] [(.int (lcmpW x ((1 : Int64) - x)))]))
        refine own_by (fun t kk_ => XS.ifNo X2.here hx rfl (hb hby at_85) rfl ((if0 _ _).trans (tlt ((lw_lt _ _).mpr (own_L2 (own_nn h_n) hd hr h_x hx0))).2.1) kk_) ?_
        show OwnG p e below s _ _ _ (T2.setTop (mkF m 88 #[.val (.long p1), .second, .val (.long p2), .second, .val (.long n), .second, .val (.long (1 : Int64)), .second, .val (.long r), .second, .val (.long q), .second, .val (.long x), .second] []))
        refine own_by (fun t kk_ => XS.iconst X2.here hx rfl (hb hby at_88) kk_) ?_
        show OwnG p e below s _ _ _ (T2.setTop (mkF m 89 #[.val (.long p1), .second, .val (.long p2), .second, .val (.long n), .second, .val (.long (1 : Int64)), .second, .val (.long r), .second, .val (.long q), .second, .val (.long x), .second] [(.int (1 : Int32))]))
        refine own_by (fun t kk_ => XS.goto X2.here hx rfl (pc0 := 89) (pc' := 93) rfl (hb hby at_89) (by decide) (by decide) kk_) ?_
        show OwnG p e below s _ _ _ (T2.setTop (mkF m 93 #[.val (.long p1), .second, .val (.long p2), .second, .val (.long n), .second, .val (.long (1 : Int64)), .second, .val (.long r), .second, .val (.long q), .second, .val (.long x), .second] [(.int (1 : Int32))]))
        exact own_outN X2 hx hret (by simp) hlk (hb hby at_93) rfl (⟨rfl, N2⟩) (by decide) (by decide)
    · refine own_by (fun t kk_ => XS.ifNo X2.here hx rfl (hb hby at_45) rfl ((if0 _ _).trans (feq (fun q => hrq ((lw_eq _ _).mp q))).1) kk_) ?_
      show OwnG p e below s _ _ _ (T2.setTop (mkF m 48 #[.val (.long p1), .second, .val (.long p2), .second, .val (.long n), .second, .val (.long (1 : Int64)), .second, .val (.long r), .second, .val (.long q), .second, .unset, .unset] []))
      refine own_by (fun t kk_ => XS.lload X2.here hx rfl (hb hby at_48) rfl  kk_) ?_
      show OwnG p e below s _ _ _ (T2.setTop (mkF m 50 #[.val (.long p1), .second, .val (.long p2), .second, .val (.long n), .second, .val (.long (1 : Int64)), .second, .val (.long r), .second, .val (.long q), .second, .unset, .unset] [(.long r)]))
      refine own_by (fun t kk_ => XS.lload X2.here hx rfl (hb hby at_50) rfl  kk_) ?_
      show OwnG p e below s _ _ _ (T2.setTop (mkF m 52 #[.val (.long p1), .second, .val (.long p2), .second, .val (.long n), .second, .val (.long (1 : Int64)), .second, .val (.long r), .second, .val (.long q), .second, .unset, .unset] [(.long q), (.long r)]))
      refine own_by (fun t kk_ => XS.lconst X2.here hx rfl (hb hby at_52) kk_) ?_
      show OwnG p e below s _ _ _ (T2.setTop (mkF m 53 #[.val (.long p1), .second, .val (.long p2), .second, .val (.long n), .second, .val (.long (1 : Int64)), .second, .val (.long r), .second, .val (.long q), .second, .unset, .unset] [(.long (1 : Int64)), (.long q), (.long r)]))
      refine own_by (fun t kk_ => XS.ladd X2.here hx rfl (hb hby at_53) rfl kk_) ?_
      show OwnG p e below s _ _ _ (T2.setTop (mkF m 54 #[.val (.long p1), .second, .val (.long p2), .second, .val (.long n), .second, .val (.long (1 : Int64)), .second, .val (.long r), .second, .val (.long q), .second, .unset, .unset] [(.long (q + (1 : Int64))), (.long r)]))
      refine own_by (fun t kk_ => XS.lcmp X2.here hx rfl (hb hby at_54) rfl kk_) ?_
      show OwnG p e below s _ _ _ (T2.setTop (mkF m 55 #[.val (.long p1), .second, .val (.long p2), .second, .val (.long n), .second, .val (.long (1 : Int64)), .second, .val (.long r), .second, .val (.long q), .second, .unset, .unset] [(.int (lcmpW r (q + (1 : Int64))))]))
      refine own_by (fun t kk_ => XS.ifYes X2.here hx rfl (pc0 := 55) (pc' := 60) rfl (hb hby at_55) rfl ((if0 _ _).trans (teq ((lw_eq _ _).mpr (own_L1 h_q hr hrq))).1) (by decide) (by decide) kk_) ?_
      show OwnG p e below s _ _ _ (T2.setTop (mkF m 60 #[.val (.long p1), .second, .val (.long p2), .second, .val (.long n), .second, .val (.long (1 : Int64)), .second, .val (.long r), .second, .val (.long q), .second, .unset, .unset] []))
      refine own_by (fun t kk_ => XS.lload X2.here hx rfl (hb hby at_60) rfl  kk_) ?_
      show OwnG p e below s _ _ _ (T2.setTop (mkF m 62 #[.val (.long p1), .second, .val (.long p2), .second, .val (.long n), .second, .val (.long (1 : Int64)), .second, .val (.long r), .second, .val (.long q), .second, .unset, .unset] [(.long n)]))
      refine own_by (fun t kk_ => XS.lload X2.here hx rfl (hb hby at_62) rfl  kk_) ?_
      show OwnG p e below s _ _ _ (T2.setTop (mkF m 64 #[.val (.long p1), .second, .val (.long p2), .second, .val (.long n), .second, .val (.long (1 : Int64)), .second, .val (.long r), .second, .val (.long q), .second, .unset, .unset] [(.long r), (.long n)]))
      refine own_by (fun t kk_ => XS.lload X2.here hx rfl (hb hby at_64) rfl  kk_) ?_
      show OwnG p e below s _ _ _ (T2.setTop (mkF m 66 #[.val (.long p1), .second, .val (.long p2), .second, .val (.long n), .second, .val (.long (1 : Int64)), .second, .val (.long r), .second, .val (.long q), .second, .unset, .unset] [(.long (1 : Int64)), (.long r), (.long n)]))
      refine own_by (fun t kk_ => XS.lmul X2.here hx rfl (hb hby at_66) rfl kk_) ?_
      show OwnG p e below s _ _ _ (T2.setTop (mkF m 67 #[.val (.long p1), .second, .val (.long p2), .second, .val (.long n), .second, .val (.long (1 : Int64)), .second, .val (.long r), .second, .val (.long q), .second, .unset, .unset] [(.long (r * (1 : Int64))), (.long n)]))
      refine own_by (fun t kk_ => XS.lsub X2.here hx rfl (hb hby at_67) rfl kk_) ?_
      show OwnG p e below s _ _ _ (T2.setTop (mkF m 68 #[.val (.long p1), .second, .val (.long p2), .second, .val (.long n), .second, .val (.long (1 : Int64)), .second, .val (.long r), .second, .val (.long q), .second, .unset, .unset] [(.long (n - (r * (1 : Int64))))]))
      generalize h_x : (n - (r * (1 : Int64))) = x
      show OwnG p e below s _ _ _ (T2.setTop (mkF m 68 #[.val (.long p1), .second, .val (.long p2), .second, .val (.long n), .second, .val (.long (1 : Int64)), .second, .val (.long r), .second, .val (.long q), .second, .unset, .unset] [(.long x)]))
      refine own_by (fun t kk_ => XS.lstore X2.here hx rfl (hb hby at_68) rfl (l' := #[.val (.long p1), .second, .val (.long p2), .second, .val (.long n), .second, .val (.long (1 : Int64)), .second, .val (.long r), .second, .val (.long q), .second, .val (.long x), .second]) rfl kk_) ?_
      show OwnG p e below s _ _ _ (T2.setTop (mkF m 70 #[.val (.long p1), .second, .val (.long p2), .second, .val (.long n), .second, .val (.long (1 : Int64)), .second, .val (.long r), .second, .val (.long q), .second, .val (.long x), .second] []))
      refine own_by (fun t kk_ => XS.lload X2.here hx rfl (hb hby at_70) rfl  kk_) ?_
      show OwnG p e below s _ _ _ (T2.setTop (mkF m 72 #[.val (.long p1), .second, .val (.long p2), .second, .val (.long n), .second, .val (.long (1 : Int64)), .second, .val (.long r), .second, .val (.long q), .second, .val (.long x), .second] [(.long x)]))
      refine own_by (fun t kk_ => XS.lconst X2.here hx rfl (hb hby at_72) kk_) ?_
      show OwnG p e below s _ _ _ (T2.setTop (mkF m 73 #[.val (.long p1), .second, .val (.long p2), .second, .val (.long n), .second, .val (.long (1 : Int64)), .second, .val (.long r), .second, .val (.long q), .second, .val (.long x), .second] [(.long (0 : Int64)), (.long x)]))
      refine own_by (fun t kk_ => XS.lcmp X2.here hx rfl (hb hby at_73) rfl kk_) ?_
      show OwnG p e below s _ _ _ (T2.setTop (mkF m 74 #[.val (.long p1), .second, .val (.long p2), .second, .val (.long n), .second, .val (.long (1 : Int64)), .second, .val (.long r), .second, .val (.long q), .second, .val (.long x), .second] [(.int (lcmpW x (0 : Int64)))]))
      by_cases hx0 : x < (0 : Int64)
      · refine own_by (fun t kk_ => XS.ifYes X2.here hx rfl (pc0 := 74) (pc' := 94) rfl (hb hby at_74) rfl ((if0 _ _).trans (tlt ((lw_lt _ _).mpr hx0)).1) (by decide) (by decide) kk_) ?_
        show OwnG p e below s _ _ _ (T2.setTop (mkF m 94 #[.val (.long p1), .second, .val (.long p2), .second, .val (.long n), .second, .val (.long (1 : Int64)), .second, .val (.long r), .second, .val (.long q), .second, .val (.long x), .second] []))
        refine own_by (fun t kk_ => XS.lload X2.here hx rfl (hb hby at_94) rfl  kk_) ?_
        show OwnG p e below s _ _ _ (T2.setTop (mkF m 96 #[.val (.long p1), .second, .val (.long p2), .second, .val (.long n), .second, .val (.long (1 : Int64)), .second, .val (.long r), .second, .val (.long q), .second, .val (.long x), .second] [(.long x)]))
        refine own_by (fun t kk_ => XS.lneg X2.here hx rfl (hb hby at_96) rfl kk_) ?_
        show OwnG p e below s _ _ _ (T2.setTop (mkF m 97 #[.val (.long p1), .second, .val (.long p2), .second, .val (.long n), .second, .val (.long (1 : Int64)), .second, .val (.long r), .second, .val (.long q), .second, .val (.long x), .second] [(.long (-x))]))
        refine own_by (fun t kk_ => XS.lload X2.here hx rfl (hb hby at_97) rfl  kk_) ?_
        show OwnG p e below s _ _ _ (T2.setTop (mkF m 99 #[.val (.long p1), .second, .val (.long p2), .second, .val (.long n), .second, .val (.long (1 : Int64)), .second, .val (.long r), .second, .val (.long q), .second, .val (.long x), .second] [(.long (1 : Int64)), (.long (-x))]))
        refine own_by (fun t kk_ => XS.lload X2.here hx rfl (hb hby at_99) rfl  kk_) ?_
        show OwnG p e below s _ _ _ (T2.setTop (mkF m 101 #[.val (.long p1), .second, .val (.long p2), .second, .val (.long n), .second, .val (.long (1 : Int64)), .second, .val (.long r), .second, .val (.long q), .second, .val (.long x), .second] [(.long x), (.long (1 : Int64)), (.long (-x))]))
        refine own_by (fun t kk_ => XS.ladd X2.here hx rfl (hb hby at_101) rfl kk_) ?_
        show OwnG p e below s _ _ _ (T2.setTop (mkF m 102 #[.val (.long p1), .second, .val (.long p2), .second, .val (.long n), .second, .val (.long (1 : Int64)), .second, .val (.long r), .second, .val (.long q), .second, .val (.long x), .second] [(.long ((1 : Int64) + x)), (.long (-x))]))
        refine own_by (fun t kk_ => XS.lcmp X2.here hx rfl (hb hby at_102) rfl kk_) ?_
        show OwnG p e below s _ _ _ (T2.setTop (mkF m 103 #[.val (.long p1), .second, .val (.long p2), .second, .val (.long n), .second, .val (.long (1 : Int64)), .second, .val (.long r), .second, .val (.long q), .second, .val (.long x), .second] [(.int (lcmpW (-x) ((1 : Int64) + x)))]))
        refine own_by (fun t kk_ => XS.ifNo X2.here hx rfl (hb hby at_103) rfl ((if0 _ _).trans (flt (fun q => (own_L3 (own_nn h_n) hd hr h_x hx0) ((lw_gt _ _).mp q))).2.2.1) kk_) ?_
        show OwnG p e below s _ _ _ (T2.setTop (mkF m 106 #[.val (.long p1), .second, .val (.long p2), .second, .val (.long n), .second, .val (.long (1 : Int64)), .second, .val (.long r), .second, .val (.long q), .second, .val (.long x), .second] []))
        refine own_by (fun t kk_ => XS.iconst X2.here hx rfl (hb hby at_106) kk_) ?_
        show OwnG p e below s _ _ _ (T2.setTop (mkF m 107 #[.val (.long p1), .second, .val (.long p2), .second, .val (.long n), .second, .val (.long (1 : Int64)), .second, .val (.long r), .second, .val (.long q), .second, .val (.long x), .second] [(.int (1 : Int32))]))
        refine own_by (fun t kk_ => XS.goto X2.here hx rfl (pc0 := 107) (pc' := 111) rfl (hb hby at_107) (by decide) (by decide) kk_) ?_
        show OwnG p e below s _ _ _ (T2.setTop (mkF m 111 #[.val (.long p1), .second, .val (.long p2), .second, .val (.long n), .second, .val (.long (1 : Int64)), .second, .val (.long r), .second, .val (.long q), .second, .val (.long x), .second] [(.int (1 : Int32))]))
        exact own_outN X2 hx hret (by simp) hlk (hb hby at_111) rfl (⟨rfl, N2⟩) (by decide) (by decide)
      · refine own_by (fun t kk_ => XS.ifNo X2.here hx rfl (hb hby at_74) rfl ((if0 _ _).trans (flt (fun q => hx0 ((lw_lt _ _).mp q))).1) kk_) ?_
        show OwnG p e below s _ _ _ (T2.setTop (mkF m 77 #[.val (.long p1), .second, .val (.long p2), .second, .val (.long n), .second, .val (.long (1 : Int64)), .second, .val (.long r), .second, .val (.long q), .second, .val (.long x), .second] []))
        refine own_by (fun t kk_ => XS.lload X2.here hx rfl (hb hby at_77) rfl  kk_) ?_
        show OwnG p e below s _ _ _ (T2.setTop (mkF m 79 #[.val (.long p1), .second, .val (.long p2), .second, .val (.long n), .second, .val (.long (1 : Int64)), .second, .val (.long r), .second, .val (.long q), .second, .val (.long x), .second] [(.long x)]))
        refine own_by (fun t kk_ => XS.lload X2.here hx rfl (hb hby at_79) rfl  kk_) ?_
        show OwnG p e below s _ _ _ (T2.setTop (mkF m 81 #[.val (.long p1), .second, .val (.long p2), .second, .val (.long n), .second, .val (.long (1 : Int64)), .second, .val (.long r), .second, .val (.long q), .second, .val (.long x), .second] [(.long (1 : Int64)), (.long x)]))
        refine own_by (fun t kk_ => XS.lload X2.here hx rfl (hb hby at_81) rfl  kk_) ?_
        show OwnG p e below s _ _ _ (T2.setTop (mkF m 83 #[.val (.long p1), .second, .val (.long p2), .second, .val (.long n), .second, .val (.long (1 : Int64)), .second, .val (.long r), .second, .val (.long q), .second, .val (.long x), .second] [(.long x), (.long (1 : Int64)), (.long x)]))
        refine own_by (fun t kk_ => XS.lsub X2.here hx rfl (hb hby at_83) rfl kk_) ?_
        show OwnG p e below s _ _ _ (T2.setTop (mkF m 84 #[.val (.long p1), .second, .val (.long p2), .second, .val (.long n), .second, .val (.long (1 : Int64)), .second, .val (.long r), .second, .val (.long q), .second, .val (.long x), .second] [(.long ((1 : Int64) - x)), (.long x)]))
        refine own_by (fun t kk_ => XS.lcmp X2.here hx rfl (hb hby at_84) rfl kk_) ?_
        show OwnG p e below s _ _ _ (T2.setTop (mkF m 85 #[.val (.long p1), .second, .val (.long p2), .second, .val (.long n), .second, .val (.long (1 : Int64)), .second, .val (.long r), .second, .val (.long q), .second, .val (.long x), .second] [(.int (lcmpW x ((1 : Int64) - x)))]))
        refine own_by (fun t kk_ => XS.ifNo X2.here hx rfl (hb hby at_85) rfl ((if0 _ _).trans (tlt ((lw_lt _ _).mpr (own_L2 (own_nn h_n) hd hr h_x hx0))).2.1) kk_) ?_
        show OwnG p e below s _ _ _ (T2.setTop (mkF m 88 #[.val (.long p1), .second, .val (.long p2), .second, .val (.long n), .second, .val (.long (1 : Int64)), .second, .val (.long r), .second, .val (.long q), .second, .val (.long x), .second] []))
        refine own_by (fun t kk_ => XS.iconst X2.here hx rfl (hb hby at_88) kk_) ?_
        show OwnG p e below s _ _ _ (T2.setTop (mkF m 89 #[.val (.long p1), .second, .val (.long p2), .second, .val (.long n), .second, .val (.long (1 : Int64)), .second, .val (.long r), .second, .val (.long q), .second, .val (.long x), .second] [(.int (1 : Int32))]))
        refine own_by (fun t kk_ => XS.goto X2.here hx rfl (pc0 := 89) (pc' := 93) rfl (hb hby at_89) (by decide) (by decide) kk_) ?_
        show OwnG p e below s _ _ _ (T2.setTop (mkF m 93 #[.val (.long p1), .second, .val (.long p2), .second, .val (.long n), .second, .val (.long (1 : Int64)), .second, .val (.long r), .second, .val (.long q), .second, .val (.long x), .second] [(.int (1 : Int32))]))
        exact own_outN X2 hx hret (by simp) hlk (hb hby at_93) rfl (⟨rfl, N2⟩) (by decide) (by decide)
  · have hd := own_pos (own_nn h_d) hb18_1
    refine own_by (fun t kk_ => XS.ifYes X0.here hx rfl (pc0 := 18) (pc' := 24) rfl (hb hby at_18) rfl ((if0 _ _).trans (feq (fun q => hb18_1 ((lw_eq _ _).mp q))).2) (by decide) (by decide) kk_) ?_
    show OwnG p e below s _ _ _ (s₁.setTop (mkF m 24 #[.val (.long p1), .second, .val (.long p2), .second, .val (.long n), .second, .val (.long d), .second, .unset, .unset, .unset, .unset, .unset, .unset] []))
    refine own_by (fun t kk_ => XS.lload X0.here hx rfl (hb hby at_24) rfl  kk_) ?_
    show OwnG p e below s _ _ _ (s₁.setTop (mkF m 26 #[.val (.long p1), .second, .val (.long p2), .second, .val (.long n), .second, .val (.long d), .second, .unset, .unset, .unset, .unset, .unset, .unset] [(.long n)]))
    refine own_by (fun t kk_ => XS.lload X0.here hx rfl (hb hby at_26) rfl  kk_) ?_
    show OwnG p e below s _ _ _ (s₁.setTop (mkF m 28 #[.val (.long p1), .second, .val (.long p2), .second, .val (.long n), .second, .val (.long d), .second, .unset, .unset, .unset, .unset, .unset, .unset] [(.long d), (.long n)]))
    obtain ⟨_, _, ⟨T3, L3, k3, n3⟩, -, X3, ⟨Lc3, hQ3, l3, y3, z3⟩, st3⟩ := Jvm.LawKit.callS X0 hx (y := (⟨"com/example/gasholder/gasholder/Fraction", "nearest", "(JJ)J"⟩ : MethodName)) hown (mvT hZ (hw _ (List.mem_of_getElem? (i := 1) rfl))) (mvT hZ (hw _ (List.mem_of_getElem? (i := 2) rfl))) (mvT hZ (hw _ (List.mem_of_getElem? (i := 3) rfl))) (mvT hZ (hw _ (List.mem_of_getElem? (i := 4) rfl))) (by decide) (backOf (W := 0) (rm1 l Z a0 hw [] n d h0 n0 Z0 hd) hZ (hw _ (List.mem_of_getElem? (i := 4) rfl)) (hw _ (List.mem_of_getElem? (i := 3) rfl)) (by decide) (by decide)) (g := (mkF m 28 #[.val (.long p1), .second, .val (.long p2), .second, .val (.long n), .second, .val (.long d), .second, .unset, .unset, .unset, .unset, .unset, .unset] [(.long d), (.long n)])) rfl (by rw [hml]; rfl) (argsL := [(.long n), (.long d)]) (rest := []) (lenOf pd_0 rfl) rfl (by show 2 * 0 + _ ≤ _; exact Nat.le_of_eq rfl) (hb hby at_28) (fun _ _ => ⟨rfl, e0, (by decide : 0 + 0 ≤ _), (by decide : 0 + 0 ≤ _)⟩)
    dsimp only [Pt.U, Pt.locs, Pt.cells, Pt.slots] at X3 l3 y3 z3 st3 hQ3
    subst l3 y3 z3
    refine own_by (fun t kk_ => st3 _ kk_) ?_
    obtain ⟨⟨r, rfl, hr⟩, N3q, hh3⟩ := hQ3
    have N3 := Fr.app N0 N3q
    have sz3 : n0 ≤ T3.heap.size := by rw [hh3]; exact Z0
    show OwnG p e below s _ _ _ (T3.setTop (mkF m 31 #[.val (.long p1), .second, .val (.long p2), .second, .val (.long n), .second, .val (.long d), .second, .unset, .unset, .unset, .unset, .unset, .unset] [(.long r)]))
    refine own_by (fun t kk_ => XS.lstore X3.here hx rfl (hb hby at_31) rfl (l' := #[.val (.long p1), .second, .val (.long p2), .second, .val (.long n), .second, .val (.long d), .second, .val (.long r), .second, .unset, .unset, .unset, .unset]) rfl kk_) ?_
    show OwnG p e below s _ _ _ (T3.setTop (mkF m 33 #[.val (.long p1), .second, .val (.long p2), .second, .val (.long n), .second, .val (.long d), .second, .val (.long r), .second, .unset, .unset, .unset, .unset] []))
    refine own_by (fun t kk_ => XS.lload X3.here hx rfl (hb hby at_33) rfl  kk_) ?_
    show OwnG p e below s _ _ _ (T3.setTop (mkF m 35 #[.val (.long p1), .second, .val (.long p2), .second, .val (.long n), .second, .val (.long d), .second, .val (.long r), .second, .unset, .unset, .unset, .unset] [(.long n)]))
    refine own_by (fun t kk_ => XS.lload X3.here hx rfl (hb hby at_35) rfl  kk_) ?_
    show OwnG p e below s _ _ _ (T3.setTop (mkF m 37 #[.val (.long p1), .second, .val (.long p2), .second, .val (.long n), .second, .val (.long d), .second, .val (.long r), .second, .unset, .unset, .unset, .unset] [(.long d), (.long n)]))
    refine own_by (fun t kk_ => XS.ldiv X3.here hx rfl (hb hby at_37) rfl (own_nz hd) kk_) ?_
    show OwnG p e below s _ _ _ (T3.setTop (mkF m 38 #[.val (.long p1), .second, .val (.long p2), .second, .val (.long n), .second, .val (.long d), .second, .val (.long r), .second, .unset, .unset, .unset, .unset] [(.long (n / d))]))
    generalize h_q : (n / d) = q
    show OwnG p e below s _ _ _ (T3.setTop (mkF m 38 #[.val (.long p1), .second, .val (.long p2), .second, .val (.long n), .second, .val (.long d), .second, .val (.long r), .second, .unset, .unset, .unset, .unset] [(.long q)]))
    refine own_by (fun t kk_ => XS.lstore X3.here hx rfl (hb hby at_38) rfl (l' := #[.val (.long p1), .second, .val (.long p2), .second, .val (.long n), .second, .val (.long d), .second, .val (.long r), .second, .val (.long q), .second, .unset, .unset]) rfl kk_) ?_
    show OwnG p e below s _ _ _ (T3.setTop (mkF m 40 #[.val (.long p1), .second, .val (.long p2), .second, .val (.long n), .second, .val (.long d), .second, .val (.long r), .second, .val (.long q), .second, .unset, .unset] []))
    refine own_by (fun t kk_ => XS.lload X3.here hx rfl (hb hby at_40) rfl  kk_) ?_
    show OwnG p e below s _ _ _ (T3.setTop (mkF m 42 #[.val (.long p1), .second, .val (.long p2), .second, .val (.long n), .second, .val (.long d), .second, .val (.long r), .second, .val (.long q), .second, .unset, .unset] [(.long r)]))
    refine own_by (fun t kk_ => XS.lload X3.here hx rfl (hb hby at_42) rfl  kk_) ?_
    show OwnG p e below s _ _ _ (T3.setTop (mkF m 44 #[.val (.long p1), .second, .val (.long p2), .second, .val (.long n), .second, .val (.long d), .second, .val (.long r), .second, .val (.long q), .second, .unset, .unset] [(.long q), (.long r)]))
    refine own_by (fun t kk_ => XS.lcmp X3.here hx rfl (hb hby at_44) rfl kk_) ?_
    show OwnG p e below s _ _ _ (T3.setTop (mkF m 45 #[.val (.long p1), .second, .val (.long p2), .second, .val (.long n), .second, .val (.long d), .second, .val (.long r), .second, .val (.long q), .second, .unset, .unset] [(.int (lcmpW r q))]))
    by_cases hrq : r = q
    · refine own_by (fun t kk_ => XS.ifYes X3.here hx rfl (pc0 := 45) (pc' := 60) rfl (hb hby at_45) rfl ((if0 _ _).trans (teq ((lw_eq _ _).mpr hrq)).1) (by decide) (by decide) kk_) ?_
      show OwnG p e below s _ _ _ (T3.setTop (mkF m 60 #[.val (.long p1), .second, .val (.long p2), .second, .val (.long n), .second, .val (.long d), .second, .val (.long r), .second, .val (.long q), .second, .unset, .unset] []))
      refine own_by (fun t kk_ => XS.lload X3.here hx rfl (hb hby at_60) rfl  kk_) ?_
      show OwnG p e below s _ _ _ (T3.setTop (mkF m 62 #[.val (.long p1), .second, .val (.long p2), .second, .val (.long n), .second, .val (.long d), .second, .val (.long r), .second, .val (.long q), .second, .unset, .unset] [(.long n)]))
      refine own_by (fun t kk_ => XS.lload X3.here hx rfl (hb hby at_62) rfl  kk_) ?_
      show OwnG p e below s _ _ _ (T3.setTop (mkF m 64 #[.val (.long p1), .second, .val (.long p2), .second, .val (.long n), .second, .val (.long d), .second, .val (.long r), .second, .val (.long q), .second, .unset, .unset] [(.long r), (.long n)]))
      refine own_by (fun t kk_ => XS.lload X3.here hx rfl (hb hby at_64) rfl  kk_) ?_
      show OwnG p e below s _ _ _ (T3.setTop (mkF m 66 #[.val (.long p1), .second, .val (.long p2), .second, .val (.long n), .second, .val (.long d), .second, .val (.long r), .second, .val (.long q), .second, .unset, .unset] [(.long d), (.long r), (.long n)]))
      refine own_by (fun t kk_ => XS.lmul X3.here hx rfl (hb hby at_66) rfl kk_) ?_
      show OwnG p e below s _ _ _ (T3.setTop (mkF m 67 #[.val (.long p1), .second, .val (.long p2), .second, .val (.long n), .second, .val (.long d), .second, .val (.long r), .second, .val (.long q), .second, .unset, .unset] [(.long (r * d)), (.long n)]))
      refine own_by (fun t kk_ => XS.lsub X3.here hx rfl (hb hby at_67) rfl kk_) ?_
      show OwnG p e below s _ _ _ (T3.setTop (mkF m 68 #[.val (.long p1), .second, .val (.long p2), .second, .val (.long n), .second, .val (.long d), .second, .val (.long r), .second, .val (.long q), .second, .unset, .unset] [(.long (n - (r * d)))]))
      generalize h_x : (n - (r * d)) = x
      show OwnG p e below s _ _ _ (T3.setTop (mkF m 68 #[.val (.long p1), .second, .val (.long p2), .second, .val (.long n), .second, .val (.long d), .second, .val (.long r), .second, .val (.long q), .second, .unset, .unset] [(.long x)]))
      refine own_by (fun t kk_ => XS.lstore X3.here hx rfl (hb hby at_68) rfl (l' := #[.val (.long p1), .second, .val (.long p2), .second, .val (.long n), .second, .val (.long d), .second, .val (.long r), .second, .val (.long q), .second, .val (.long x), .second]) rfl kk_) ?_
      show OwnG p e below s _ _ _ (T3.setTop (mkF m 70 #[.val (.long p1), .second, .val (.long p2), .second, .val (.long n), .second, .val (.long d), .second, .val (.long r), .second, .val (.long q), .second, .val (.long x), .second] []))
      refine own_by (fun t kk_ => XS.lload X3.here hx rfl (hb hby at_70) rfl  kk_) ?_
      show OwnG p e below s _ _ _ (T3.setTop (mkF m 72 #[.val (.long p1), .second, .val (.long p2), .second, .val (.long n), .second, .val (.long d), .second, .val (.long r), .second, .val (.long q), .second, .val (.long x), .second] [(.long x)]))
      refine own_by (fun t kk_ => XS.lconst X3.here hx rfl (hb hby at_72) kk_) ?_
      show OwnG p e below s _ _ _ (T3.setTop (mkF m 73 #[.val (.long p1), .second, .val (.long p2), .second, .val (.long n), .second, .val (.long d), .second, .val (.long r), .second, .val (.long q), .second, .val (.long x), .second] [(.long (0 : Int64)), (.long x)]))
      refine own_by (fun t kk_ => XS.lcmp X3.here hx rfl (hb hby at_73) rfl kk_) ?_
      show OwnG p e below s _ _ _ (T3.setTop (mkF m 74 #[.val (.long p1), .second, .val (.long p2), .second, .val (.long n), .second, .val (.long d), .second, .val (.long r), .second, .val (.long q), .second, .val (.long x), .second] [(.int (lcmpW x (0 : Int64)))]))
      by_cases hx0 : x < (0 : Int64)
      · refine own_by (fun t kk_ => XS.ifYes X3.here hx rfl (pc0 := 74) (pc' := 94) rfl (hb hby at_74) rfl ((if0 _ _).trans (tlt ((lw_lt _ _).mpr hx0)).1) (by decide) (by decide) kk_) ?_
        show OwnG p e below s _ _ _ (T3.setTop (mkF m 94 #[.val (.long p1), .second, .val (.long p2), .second, .val (.long n), .second, .val (.long d), .second, .val (.long r), .second, .val (.long q), .second, .val (.long x), .second] []))
        refine own_by (fun t kk_ => XS.lload X3.here hx rfl (hb hby at_94) rfl  kk_) ?_
        show OwnG p e below s _ _ _ (T3.setTop (mkF m 96 #[.val (.long p1), .second, .val (.long p2), .second, .val (.long n), .second, .val (.long d), .second, .val (.long r), .second, .val (.long q), .second, .val (.long x), .second] [(.long x)]))
        refine own_by (fun t kk_ => XS.lneg X3.here hx rfl (hb hby at_96) rfl kk_) ?_
        show OwnG p e below s _ _ _ (T3.setTop (mkF m 97 #[.val (.long p1), .second, .val (.long p2), .second, .val (.long n), .second, .val (.long d), .second, .val (.long r), .second, .val (.long q), .second, .val (.long x), .second] [(.long (-x))]))
        refine own_by (fun t kk_ => XS.lload X3.here hx rfl (hb hby at_97) rfl  kk_) ?_
        show OwnG p e below s _ _ _ (T3.setTop (mkF m 99 #[.val (.long p1), .second, .val (.long p2), .second, .val (.long n), .second, .val (.long d), .second, .val (.long r), .second, .val (.long q), .second, .val (.long x), .second] [(.long d), (.long (-x))]))
        refine own_by (fun t kk_ => XS.lload X3.here hx rfl (hb hby at_99) rfl  kk_) ?_
        show OwnG p e below s _ _ _ (T3.setTop (mkF m 101 #[.val (.long p1), .second, .val (.long p2), .second, .val (.long n), .second, .val (.long d), .second, .val (.long r), .second, .val (.long q), .second, .val (.long x), .second] [(.long x), (.long d), (.long (-x))]))
        refine own_by (fun t kk_ => XS.ladd X3.here hx rfl (hb hby at_101) rfl kk_) ?_
        show OwnG p e below s _ _ _ (T3.setTop (mkF m 102 #[.val (.long p1), .second, .val (.long p2), .second, .val (.long n), .second, .val (.long d), .second, .val (.long r), .second, .val (.long q), .second, .val (.long x), .second] [(.long (d + x)), (.long (-x))]))
        refine own_by (fun t kk_ => XS.lcmp X3.here hx rfl (hb hby at_102) rfl kk_) ?_
        show OwnG p e below s _ _ _ (T3.setTop (mkF m 103 #[.val (.long p1), .second, .val (.long p2), .second, .val (.long n), .second, .val (.long d), .second, .val (.long r), .second, .val (.long q), .second, .val (.long x), .second] [(.int (lcmpW (-x) (d + x)))]))
        refine own_by (fun t kk_ => XS.ifNo X3.here hx rfl (hb hby at_103) rfl ((if0 _ _).trans (flt (fun q => (own_L3 (own_nn h_n) hd hr h_x hx0) ((lw_gt _ _).mp q))).2.2.1) kk_) ?_
        show OwnG p e below s _ _ _ (T3.setTop (mkF m 106 #[.val (.long p1), .second, .val (.long p2), .second, .val (.long n), .second, .val (.long d), .second, .val (.long r), .second, .val (.long q), .second, .val (.long x), .second] []))
        refine own_by (fun t kk_ => XS.iconst X3.here hx rfl (hb hby at_106) kk_) ?_
        show OwnG p e below s _ _ _ (T3.setTop (mkF m 107 #[.val (.long p1), .second, .val (.long p2), .second, .val (.long n), .second, .val (.long d), .second, .val (.long r), .second, .val (.long q), .second, .val (.long x), .second] [(.int (1 : Int32))]))
        refine own_by (fun t kk_ => XS.goto X3.here hx rfl (pc0 := 107) (pc' := 111) rfl (hb hby at_107) (by decide) (by decide) kk_) ?_
        show OwnG p e below s _ _ _ (T3.setTop (mkF m 111 #[.val (.long p1), .second, .val (.long p2), .second, .val (.long n), .second, .val (.long d), .second, .val (.long r), .second, .val (.long q), .second, .val (.long x), .second] [(.int (1 : Int32))]))
        exact own_outN X3 hx hret (by simp) hlk (hb hby at_111) rfl (⟨rfl, N3⟩) (by decide) (by decide)
      · refine own_by (fun t kk_ => XS.ifNo X3.here hx rfl (hb hby at_74) rfl ((if0 _ _).trans (flt (fun q => hx0 ((lw_lt _ _).mp q))).1) kk_) ?_
        show OwnG p e below s _ _ _ (T3.setTop (mkF m 77 #[.val (.long p1), .second, .val (.long p2), .second, .val (.long n), .second, .val (.long d), .second, .val (.long r), .second, .val (.long q), .second, .val (.long x), .second] []))
        refine own_by (fun t kk_ => XS.lload X3.here hx rfl (hb hby at_77) rfl  kk_) ?_
        show OwnG p e below s _ _ _ (T3.setTop (mkF m 79 #[.val (.long p1), .second, .val (.long p2), .second, .val (.long n), .second, .val (.long d), .second, .val (.long r), .second, .val (.long q), .second, .val (.long x), .second] [(.long x)]))
        refine own_by (fun t kk_ => XS.lload X3.here hx rfl (hb hby at_79) rfl  kk_) ?_
        show OwnG p e below s _ _ _ (T3.setTop (mkF m 81 #[.val (.long p1), .second, .val (.long p2), .second, .val (.long n), .second, .val (.long d), .second, .val (.long r), .second, .val (.long q), .second, .val (.long x), .second] [(.long d), (.long x)]))
        refine own_by (fun t kk_ => XS.lload X3.here hx rfl (hb hby at_81) rfl  kk_) ?_
        show OwnG p e below s _ _ _ (T3.setTop (mkF m 83 #[.val (.long p1), .second, .val (.long p2), .second, .val (.long n), .second, .val (.long d), .second, .val (.long r), .second, .val (.long q), .second, .val (.long x), .second] [(.long x), (.long d), (.long x)]))
        refine own_by (fun t kk_ => XS.lsub X3.here hx rfl (hb hby at_83) rfl kk_) ?_
        show OwnG p e below s _ _ _ (T3.setTop (mkF m 84 #[.val (.long p1), .second, .val (.long p2), .second, .val (.long n), .second, .val (.long d), .second, .val (.long r), .second, .val (.long q), .second, .val (.long x), .second] [(.long (d - x)), (.long x)]))
        refine own_by (fun t kk_ => XS.lcmp X3.here hx rfl (hb hby at_84) rfl kk_) ?_
        show OwnG p e below s _ _ _ (T3.setTop (mkF m 85 #[.val (.long p1), .second, .val (.long p2), .second, .val (.long n), .second, .val (.long d), .second, .val (.long r), .second, .val (.long q), .second, .val (.long x), .second] [(.int (lcmpW x (d - x)))]))
        refine own_by (fun t kk_ => XS.ifNo X3.here hx rfl (hb hby at_85) rfl ((if0 _ _).trans (tlt ((lw_lt _ _).mpr (own_L2 (own_nn h_n) hd hr h_x hx0))).2.1) kk_) ?_
        show OwnG p e below s _ _ _ (T3.setTop (mkF m 88 #[.val (.long p1), .second, .val (.long p2), .second, .val (.long n), .second, .val (.long d), .second, .val (.long r), .second, .val (.long q), .second, .val (.long x), .second] []))
        refine own_by (fun t kk_ => XS.iconst X3.here hx rfl (hb hby at_88) kk_) ?_
        show OwnG p e below s _ _ _ (T3.setTop (mkF m 89 #[.val (.long p1), .second, .val (.long p2), .second, .val (.long n), .second, .val (.long d), .second, .val (.long r), .second, .val (.long q), .second, .val (.long x), .second] [(.int (1 : Int32))]))
        refine own_by (fun t kk_ => XS.goto X3.here hx rfl (pc0 := 89) (pc' := 93) rfl (hb hby at_89) (by decide) (by decide) kk_) ?_
        show OwnG p e below s _ _ _ (T3.setTop (mkF m 93 #[.val (.long p1), .second, .val (.long p2), .second, .val (.long n), .second, .val (.long d), .second, .val (.long r), .second, .val (.long q), .second, .val (.long x), .second] [(.int (1 : Int32))]))
        exact own_outN X3 hx hret (by simp) hlk (hb hby at_93) rfl (⟨rfl, N3⟩) (by decide) (by decide)
    · refine own_by (fun t kk_ => XS.ifNo X3.here hx rfl (hb hby at_45) rfl ((if0 _ _).trans (feq (fun q => hrq ((lw_eq _ _).mp q))).1) kk_) ?_
      show OwnG p e below s _ _ _ (T3.setTop (mkF m 48 #[.val (.long p1), .second, .val (.long p2), .second, .val (.long n), .second, .val (.long d), .second, .val (.long r), .second, .val (.long q), .second, .unset, .unset] []))
      refine own_by (fun t kk_ => XS.lload X3.here hx rfl (hb hby at_48) rfl  kk_) ?_
      show OwnG p e below s _ _ _ (T3.setTop (mkF m 50 #[.val (.long p1), .second, .val (.long p2), .second, .val (.long n), .second, .val (.long d), .second, .val (.long r), .second, .val (.long q), .second, .unset, .unset] [(.long r)]))
      refine own_by (fun t kk_ => XS.lload X3.here hx rfl (hb hby at_50) rfl  kk_) ?_
      show OwnG p e below s _ _ _ (T3.setTop (mkF m 52 #[.val (.long p1), .second, .val (.long p2), .second, .val (.long n), .second, .val (.long d), .second, .val (.long r), .second, .val (.long q), .second, .unset, .unset] [(.long q), (.long r)]))
      refine own_by (fun t kk_ => XS.lconst X3.here hx rfl (hb hby at_52) kk_) ?_
      show OwnG p e below s _ _ _ (T3.setTop (mkF m 53 #[.val (.long p1), .second, .val (.long p2), .second, .val (.long n), .second, .val (.long d), .second, .val (.long r), .second, .val (.long q), .second, .unset, .unset] [(.long (1 : Int64)), (.long q), (.long r)]))
      refine own_by (fun t kk_ => XS.ladd X3.here hx rfl (hb hby at_53) rfl kk_) ?_
      show OwnG p e below s _ _ _ (T3.setTop (mkF m 54 #[.val (.long p1), .second, .val (.long p2), .second, .val (.long n), .second, .val (.long d), .second, .val (.long r), .second, .val (.long q), .second, .unset, .unset] [(.long (q + (1 : Int64))), (.long r)]))
      refine own_by (fun t kk_ => XS.lcmp X3.here hx rfl (hb hby at_54) rfl kk_) ?_
      show OwnG p e below s _ _ _ (T3.setTop (mkF m 55 #[.val (.long p1), .second, .val (.long p2), .second, .val (.long n), .second, .val (.long d), .second, .val (.long r), .second, .val (.long q), .second, .unset, .unset] [(.int (lcmpW r (q + (1 : Int64))))]))
      refine own_by (fun t kk_ => XS.ifYes X3.here hx rfl (pc0 := 55) (pc' := 60) rfl (hb hby at_55) rfl ((if0 _ _).trans (teq ((lw_eq _ _).mpr (own_L1 h_q hr hrq))).1) (by decide) (by decide) kk_) ?_
      show OwnG p e below s _ _ _ (T3.setTop (mkF m 60 #[.val (.long p1), .second, .val (.long p2), .second, .val (.long n), .second, .val (.long d), .second, .val (.long r), .second, .val (.long q), .second, .unset, .unset] []))
      refine own_by (fun t kk_ => XS.lload X3.here hx rfl (hb hby at_60) rfl  kk_) ?_
      show OwnG p e below s _ _ _ (T3.setTop (mkF m 62 #[.val (.long p1), .second, .val (.long p2), .second, .val (.long n), .second, .val (.long d), .second, .val (.long r), .second, .val (.long q), .second, .unset, .unset] [(.long n)]))
      refine own_by (fun t kk_ => XS.lload X3.here hx rfl (hb hby at_62) rfl  kk_) ?_
      show OwnG p e below s _ _ _ (T3.setTop (mkF m 64 #[.val (.long p1), .second, .val (.long p2), .second, .val (.long n), .second, .val (.long d), .second, .val (.long r), .second, .val (.long q), .second, .unset, .unset] [(.long r), (.long n)]))
      refine own_by (fun t kk_ => XS.lload X3.here hx rfl (hb hby at_64) rfl  kk_) ?_
      show OwnG p e below s _ _ _ (T3.setTop (mkF m 66 #[.val (.long p1), .second, .val (.long p2), .second, .val (.long n), .second, .val (.long d), .second, .val (.long r), .second, .val (.long q), .second, .unset, .unset] [(.long d), (.long r), (.long n)]))
      refine own_by (fun t kk_ => XS.lmul X3.here hx rfl (hb hby at_66) rfl kk_) ?_
      show OwnG p e below s _ _ _ (T3.setTop (mkF m 67 #[.val (.long p1), .second, .val (.long p2), .second, .val (.long n), .second, .val (.long d), .second, .val (.long r), .second, .val (.long q), .second, .unset, .unset] [(.long (r * d)), (.long n)]))
      refine own_by (fun t kk_ => XS.lsub X3.here hx rfl (hb hby at_67) rfl kk_) ?_
      show OwnG p e below s _ _ _ (T3.setTop (mkF m 68 #[.val (.long p1), .second, .val (.long p2), .second, .val (.long n), .second, .val (.long d), .second, .val (.long r), .second, .val (.long q), .second, .unset, .unset] [(.long (n - (r * d)))]))
      generalize h_x : (n - (r * d)) = x
      show OwnG p e below s _ _ _ (T3.setTop (mkF m 68 #[.val (.long p1), .second, .val (.long p2), .second, .val (.long n), .second, .val (.long d), .second, .val (.long r), .second, .val (.long q), .second, .unset, .unset] [(.long x)]))
      refine own_by (fun t kk_ => XS.lstore X3.here hx rfl (hb hby at_68) rfl (l' := #[.val (.long p1), .second, .val (.long p2), .second, .val (.long n), .second, .val (.long d), .second, .val (.long r), .second, .val (.long q), .second, .val (.long x), .second]) rfl kk_) ?_
      show OwnG p e below s _ _ _ (T3.setTop (mkF m 70 #[.val (.long p1), .second, .val (.long p2), .second, .val (.long n), .second, .val (.long d), .second, .val (.long r), .second, .val (.long q), .second, .val (.long x), .second] []))
      refine own_by (fun t kk_ => XS.lload X3.here hx rfl (hb hby at_70) rfl  kk_) ?_
      show OwnG p e below s _ _ _ (T3.setTop (mkF m 72 #[.val (.long p1), .second, .val (.long p2), .second, .val (.long n), .second, .val (.long d), .second, .val (.long r), .second, .val (.long q), .second, .val (.long x), .second] [(.long x)]))
      refine own_by (fun t kk_ => XS.lconst X3.here hx rfl (hb hby at_72) kk_) ?_
      show OwnG p e below s _ _ _ (T3.setTop (mkF m 73 #[.val (.long p1), .second, .val (.long p2), .second, .val (.long n), .second, .val (.long d), .second, .val (.long r), .second, .val (.long q), .second, .val (.long x), .second] [(.long (0 : Int64)), (.long x)]))
      refine own_by (fun t kk_ => XS.lcmp X3.here hx rfl (hb hby at_73) rfl kk_) ?_
      show OwnG p e below s _ _ _ (T3.setTop (mkF m 74 #[.val (.long p1), .second, .val (.long p2), .second, .val (.long n), .second, .val (.long d), .second, .val (.long r), .second, .val (.long q), .second, .val (.long x), .second] [(.int (lcmpW x (0 : Int64)))]))
      by_cases hx0 : x < (0 : Int64)
      · refine own_by (fun t kk_ => XS.ifYes X3.here hx rfl (pc0 := 74) (pc' := 94) rfl (hb hby at_74) rfl ((if0 _ _).trans (tlt ((lw_lt _ _).mpr hx0)).1) (by decide) (by decide) kk_) ?_
        show OwnG p e below s _ _ _ (T3.setTop (mkF m 94 #[.val (.long p1), .second, .val (.long p2), .second, .val (.long n), .second, .val (.long d), .second, .val (.long r), .second, .val (.long q), .second, .val (.long x), .second] []))
        refine own_by (fun t kk_ => XS.lload X3.here hx rfl (hb hby at_94) rfl  kk_) ?_
        show OwnG p e below s _ _ _ (T3.setTop (mkF m 96 #[.val (.long p1), .second, .val (.long p2), .second, .val (.long n), .second, .val (.long d), .second, .val (.long r), .second, .val (.long q), .second, .val (.long x), .second] [(.long x)]))
        refine own_by (fun t kk_ => XS.lneg X3.here hx rfl (hb hby at_96) rfl kk_) ?_
        show OwnG p e below s _ _ _ (T3.setTop (mkF m 97 #[.val (.long p1), .second, .val (.long p2), .second, .val (.long n), .second, .val (.long d), .second, .val (.long r), .second, .val (.long q), .second, .val (.long x), .second] [(.long (-x))]))
        refine own_by (fun t kk_ => XS.lload X3.here hx rfl (hb hby at_97) rfl  kk_) ?_
        show OwnG p e below s _ _ _ (T3.setTop (mkF m 99 #[.val (.long p1), .second, .val (.long p2), .second, .val (.long n), .second, .val (.long d), .second, .val (.long r), .second, .val (.long q), .second, .val (.long x), .second] [(.long d), (.long (-x))]))
        refine own_by (fun t kk_ => XS.lload X3.here hx rfl (hb hby at_99) rfl  kk_) ?_
        show OwnG p e below s _ _ _ (T3.setTop (mkF m 101 #[.val (.long p1), .second, .val (.long p2), .second, .val (.long n), .second, .val (.long d), .second, .val (.long r), .second, .val (.long q), .second, .val (.long x), .second] [(.long x), (.long d), (.long (-x))]))
        refine own_by (fun t kk_ => XS.ladd X3.here hx rfl (hb hby at_101) rfl kk_) ?_
        show OwnG p e below s _ _ _ (T3.setTop (mkF m 102 #[.val (.long p1), .second, .val (.long p2), .second, .val (.long n), .second, .val (.long d), .second, .val (.long r), .second, .val (.long q), .second, .val (.long x), .second] [(.long (d + x)), (.long (-x))]))
        refine own_by (fun t kk_ => XS.lcmp X3.here hx rfl (hb hby at_102) rfl kk_) ?_
        show OwnG p e below s _ _ _ (T3.setTop (mkF m 103 #[.val (.long p1), .second, .val (.long p2), .second, .val (.long n), .second, .val (.long d), .second, .val (.long r), .second, .val (.long q), .second, .val (.long x), .second] [(.int (lcmpW (-x) (d + x)))]))
        refine own_by (fun t kk_ => XS.ifNo X3.here hx rfl (hb hby at_103) rfl ((if0 _ _).trans (flt (fun q => (own_L3 (own_nn h_n) hd hr h_x hx0) ((lw_gt _ _).mp q))).2.2.1) kk_) ?_
        show OwnG p e below s _ _ _ (T3.setTop (mkF m 106 #[.val (.long p1), .second, .val (.long p2), .second, .val (.long n), .second, .val (.long d), .second, .val (.long r), .second, .val (.long q), .second, .val (.long x), .second] []))
        refine own_by (fun t kk_ => XS.iconst X3.here hx rfl (hb hby at_106) kk_) ?_
        show OwnG p e below s _ _ _ (T3.setTop (mkF m 107 #[.val (.long p1), .second, .val (.long p2), .second, .val (.long n), .second, .val (.long d), .second, .val (.long r), .second, .val (.long q), .second, .val (.long x), .second] [(.int (1 : Int32))]))
        refine own_by (fun t kk_ => XS.goto X3.here hx rfl (pc0 := 107) (pc' := 111) rfl (hb hby at_107) (by decide) (by decide) kk_) ?_
        show OwnG p e below s _ _ _ (T3.setTop (mkF m 111 #[.val (.long p1), .second, .val (.long p2), .second, .val (.long n), .second, .val (.long d), .second, .val (.long r), .second, .val (.long q), .second, .val (.long x), .second] [(.int (1 : Int32))]))
        exact own_outN X3 hx hret (by simp) hlk (hb hby at_111) rfl (⟨rfl, N3⟩) (by decide) (by decide)
      · refine own_by (fun t kk_ => XS.ifNo X3.here hx rfl (hb hby at_74) rfl ((if0 _ _).trans (flt (fun q => hx0 ((lw_lt _ _).mp q))).1) kk_) ?_
        show OwnG p e below s _ _ _ (T3.setTop (mkF m 77 #[.val (.long p1), .second, .val (.long p2), .second, .val (.long n), .second, .val (.long d), .second, .val (.long r), .second, .val (.long q), .second, .val (.long x), .second] []))
        refine own_by (fun t kk_ => XS.lload X3.here hx rfl (hb hby at_77) rfl  kk_) ?_
        show OwnG p e below s _ _ _ (T3.setTop (mkF m 79 #[.val (.long p1), .second, .val (.long p2), .second, .val (.long n), .second, .val (.long d), .second, .val (.long r), .second, .val (.long q), .second, .val (.long x), .second] [(.long x)]))
        refine own_by (fun t kk_ => XS.lload X3.here hx rfl (hb hby at_79) rfl  kk_) ?_
        show OwnG p e below s _ _ _ (T3.setTop (mkF m 81 #[.val (.long p1), .second, .val (.long p2), .second, .val (.long n), .second, .val (.long d), .second, .val (.long r), .second, .val (.long q), .second, .val (.long x), .second] [(.long d), (.long x)]))
        refine own_by (fun t kk_ => XS.lload X3.here hx rfl (hb hby at_81) rfl  kk_) ?_
        show OwnG p e below s _ _ _ (T3.setTop (mkF m 83 #[.val (.long p1), .second, .val (.long p2), .second, .val (.long n), .second, .val (.long d), .second, .val (.long r), .second, .val (.long q), .second, .val (.long x), .second] [(.long x), (.long d), (.long x)]))
        refine own_by (fun t kk_ => XS.lsub X3.here hx rfl (hb hby at_83) rfl kk_) ?_
        show OwnG p e below s _ _ _ (T3.setTop (mkF m 84 #[.val (.long p1), .second, .val (.long p2), .second, .val (.long n), .second, .val (.long d), .second, .val (.long r), .second, .val (.long q), .second, .val (.long x), .second] [(.long (d - x)), (.long x)]))
        refine own_by (fun t kk_ => XS.lcmp X3.here hx rfl (hb hby at_84) rfl kk_) ?_
        show OwnG p e below s _ _ _ (T3.setTop (mkF m 85 #[.val (.long p1), .second, .val (.long p2), .second, .val (.long n), .second, .val (.long d), .second, .val (.long r), .second, .val (.long q), .second, .val (.long x), .second] [(.int (lcmpW x (d - x)))]))
        refine own_by (fun t kk_ => XS.ifNo X3.here hx rfl (hb hby at_85) rfl ((if0 _ _).trans (tlt ((lw_lt _ _).mpr (own_L2 (own_nn h_n) hd hr h_x hx0))).2.1) kk_) ?_
        show OwnG p e below s _ _ _ (T3.setTop (mkF m 88 #[.val (.long p1), .second, .val (.long p2), .second, .val (.long n), .second, .val (.long d), .second, .val (.long r), .second, .val (.long q), .second, .val (.long x), .second] []))
        refine own_by (fun t kk_ => XS.iconst X3.here hx rfl (hb hby at_88) kk_) ?_
        show OwnG p e below s _ _ _ (T3.setTop (mkF m 89 #[.val (.long p1), .second, .val (.long p2), .second, .val (.long n), .second, .val (.long d), .second, .val (.long r), .second, .val (.long q), .second, .val (.long x), .second] [(.int (1 : Int32))]))
        refine own_by (fun t kk_ => XS.goto X3.here hx rfl (pc0 := 89) (pc' := 93) rfl (hb hby at_89) (by decide) (by decide) kk_) ?_
        show OwnG p e below s _ _ _ (T3.setTop (mkF m 93 #[.val (.long p1), .second, .val (.long p2), .second, .val (.long n), .second, .val (.long d), .second, .val (.long r), .second, .val (.long q), .second, .val (.long x), .second] [(.int (1 : Int32))]))
        exact own_outN X3 hx hret (by simp) hlk (hb hby at_93) rfl (⟨rfl, N3⟩) (by decide) (by decide)
set_option maxRecDepth 65536 in
set_option maxHeartbeats 40000000 in
theorem comes_1 {Post : Tables → Env → Array Value → State → Outcome → State → Prop} (hpost : ∀ tb e args s v u, (limb_1_1.after args s (.returned v) u = true ∧ limb_1_2.after args s (.returned v) u = true ∧ True) → FrameEnd s (.returned v) u (Jvm.fieldLocs frame_1_writes args s ++ Jvm.arrayLocs frame_1_arrays args s ++ Jvm.staticLocs frame_1_statics s) 0 0 → Post tb e args s (.returned v) u) :
    ArmFor flags0 classFile x code maxLocals ret World_1 tables_1 room_1 Calls_1 rest_1 Pre_1 Post := by
  intro l hfl _ _ p e ha hc hk s m args below hf hA hF happ hP
  obtain ⟨hcalls, hrest, hpre⟩ := hP
  obtain ⟨-, -, -, hnamed, -, -, -, hat⟩ := (Spec.applies_iff hf).mp happ
  obtain ⟨hg, hn⟩ := and_e (Cond.before_iff.mp (show (Jvm.Cond.and given_1 narrow_1).before args s = true from hpre))
  obtain ⟨gc, gr0⟩ := and_e hg
  obtain ⟨ga0, gr1⟩ := and_e gr0
  obtain ⟨w0, w1, rfl⟩ : ∃ w0 w1 : Value, args = #[w0, w1] := by
    have hs : args.size = 2 := by simpa [Cond.value, given_1] using gc
    obtain ⟨L⟩ := args
    match L, hs with
    | [w0, w1], _ => exact ⟨w0, w1, rfl⟩
  have hw := fun d (hd : d ∈ tables_1) => atoms_spec (ws := Jvm.Cond.code x code maxLocals ret :: tables_1) hat d (List.mem_cons_of_mem _ hd)
  obtain ⟨i0, ei0⟩ := isL_v ga0
  obtain rfl : w0 = (.long i0) := Option.some.inj ei0
  obtain ⟨i1, ei1⟩ := isL_v gr1
  obtain rfl : w1 = (.long i1) := Option.some.inj ei1
  obtain ⟨n, o, h1, h2, h3, _, L, rfl, ⟨rfl, N⟩, hq⟩ := rm0 l s _ hw tables_1 i0 i1 s.heap s.heap.size (Nat.le_refl _) p e ha hc hk s m _ below hf ((Spec.applies_iff_loose hf).mp happ).1 ⟨rfl, State.Warmed39.refl s, rfl⟩ trivial
  refine ⟨n, _, h1, h2, h3, hpost _ _ _ _ _ _ ⟨Cond.after_iff.mpr rfl, Cond.after_iff.mpr (eq_i res_at (Term.int_eval (1)) rfl), trivial⟩ ⟨hq.1, hq.2.1, (hq.2.2.sift fun y hy => Or.inr (N y hy)).mono (by decide) (by decide)⟩⟩
theorem main_1_1 : Claimed_1_1 := comes_1 fun _ _ _ _ _ _ h hF => ⟨h.1, hF⟩
theorem main_1_2 : Claimed_1_2 := comes_1 fun _ _ _ _ _ _ h hF => ⟨h.2.1, hF⟩
end Jvm.Pilot.@@N@@
namespace Jvm.Pilot.@@N@@
open Jvm Jvm.ClassFile Sem Op Lib Jvm.Free Jvm.Stand Jvm.Pilot.@@N@@.Jvm.D
/-! MADE BY PROGRAM (witnessworld.py) out of the Statement's table words and the real class files: 11 classes; the members and pool entries that the words name. The judged class is class 1, her method 1. -/
namespace start1
open Jvm.ClassFile
def u (s : String) : CpInfo := .utf8 (stringToUtf16 s)
/-- a pool by its gaps: so many unusable entries, then the entry; so many at the end -/
def gap : Nat → List CpInfo → List CpInfo
  | 0, r => r
  | n + 1, r => .unusable :: gap n r
def poolList (es : List (Nat × CpInfo)) (last : Nat) : List CpInfo := es.foldr (fun e r => gap e.1 (e.2 :: r)) (gap last [])
def pool (es : List (Nat × CpInfo)) (last : Nat) : Array CpInfo := ⟨poolList es last⟩
def fileOf (pool : Array CpInfo) (this : Nat) (attrs : Array Attribute := #[]) (ms : Array MethodInfo := #[]) (fl : Nat := 33) (sup : Nat := 0) (ifs : Array Nat := #[]) (fds : Array FieldInfo := #[]) : ClassFile where
  minorVersion := 0
  majorVersion := 65
  constantPool := pool
  accessFlags := fl
  thisClass := this
  superClass := sup
  interfaces := ifs
  fields := fds
  methods := ms
  attributes := attrs
def plain (name : String) (sup : Option ClassId) : Class where
  name := name
  kind := .ordinary
  loader := none
  accessFlags := 33
  super := sup
  interfaces := #[]
  cf := none
  fields := #[]
  methods := #[]
  instanceTypes := #[]
  staticTypes := #[]
  resolved := #[]
  callSites := []
  init := .initialized
  statics := none
  mirror := none

def pool0 : Array CpInfo := pool [(5, u "<init>"), (0, u "()V"), (1, .class_ 10), (1, u "java/lang/Object")] 113

def k0m0 : Method := { name := "<init>", desc := "()V", sig := { parameters := [], returnType := none }, accessFlags := 1, code := none }
/-- java/lang/Object -/
def k0 : Class := { plain "java/lang/Object" none with
  accessFlags := 33
  interfaces := #[]
  cf := some (fileOf pool0 8 #[] #[{ accessFlags := 1, nameIndex := 5, descriptorIndex := 6, attributes := #[] }] 33 0 #[] #[])
  fields := #[]
  methods := #[k0m0]
  instanceTypes := #[]
  staticTypes := #[]
  resolved := Array.replicate 124 none
  statics := none }

def pool1 : Array CpInfo := pool [(2, .class_ 4), (1, u "java/lang/Object"), (0, u "<init>"), (0, u "()V"), (2, .long 9223372036854775807), (1, .methodref 12 13), (0, .class_ 14), (0, .nameAndType 15 16), (0, u "com/example/gasholder/gasholder/Fraction"), (0, u "nearest"), (0, u "(JJ)J"), (0, .class_ 18), (0, u "com/example/gasholder/gasholder/FractionNearestPinLaw"), (2, u "law"), (0, u "(JJ)Z")] 3

def k1m0 : Method := { name := "<init>", desc := "()V", sig := { parameters := [], returnType := none }, accessFlags := 2, code := none }
def k1c1 : Code := { maxStack := 6, maxLocals := 14, code := code, exceptionTable := #[], attributes := #[] }
def k1m1 : Method := { name := "law", desc := "(JJ)Z", sig := { parameters := [.long, .long], returnType := some .boolean }, accessFlags := 9, code := some k1c1 }
/-- com/example/gasholder/gasholder/FractionNearestPinLaw -/
def k1 : Class := { plain "com/example/gasholder/gasholder/FractionNearestPinLaw" (some 0) with
  accessFlags := 49
  interfaces := #[]
  cf := some (fileOf pool1 17 #[] #[{ accessFlags := 2, nameIndex := 5, descriptorIndex := 6, attributes := #[] }, { accessFlags := 9, nameIndex := 21, descriptorIndex := 22, attributes := #[] }] 49 2 #[] #[])
  fields := #[]
  methods := #[k1m0, k1m1]
  instanceTypes := #[]
  staticTypes := #[]
  resolved := Array.replicate 26 none
  statics := none }

def pool2 : Array CpInfo := pool [(2, .class_ 4), (1, u "java/lang/Object"), (0, u "<init>"), (0, u "()V"), (0, .class_ 8), (0, u "java/lang/Record")] 13

def k2m0 : Method := { name := "<init>", desc := "()V", sig := { parameters := [], returnType := none }, accessFlags := 4, code := none }
/-- java/lang/Record -/
def k2 : Class := { plain "java/lang/Record" (some 0) with
  accessFlags := 1057
  interfaces := #[]
  cf := some (fileOf pool2 7 #[] #[{ accessFlags := 4, nameIndex := 5, descriptorIndex := 6, attributes := #[] }] 1057 2 #[] #[])
  fields := #[]
  methods := #[k2m0]
  instanceTypes := #[]
  staticTypes := #[]
  resolved := Array.replicate 22 none
  statics := none }

def pool3 : Array CpInfo := pool [(1, .class_ 2), (0, u "java/lang/Comparable"), (0, .class_ 4), (0, u "java/lang/Object")] 7

/-- java/lang/Comparable -/
def k3 : Class := { plain "java/lang/Comparable" (some 0) with
  accessFlags := 1537
  interfaces := #[]
  cf := some (fileOf pool3 1 #[] #[] 1537 3 #[] #[])
  fields := #[]
  methods := #[]
  instanceTypes := #[]
  staticTypes := #[]
  resolved := Array.replicate 12 none
  statics := none }

def pool4 : Array CpInfo := pool [(2, .class_ 4), (1, u "java/lang/Record"), (31, .class_ 38), (1, u "com/example/gasholder/gasholder/Fraction"), (0, u "numerator"), (0, u "Ljava/math/BigInteger;"), (2, u "denominator"), (68, u "ZERO"), (0, u "Lcom/example/gasholder/gasholder/Fraction;"), (0, .class_ 115), (0, u "java/lang/Comparable"), (10, u "nearest"), (2, u "(JJ)J")] 35

def k4c0 : Code := { maxStack := 6, maxLocals := 8, code := prog_10_method_14_code, exceptionTable := #[], attributes := #[] }
def k4m0 : Method := { name := "nearest", desc := "(JJ)J", sig := { parameters := [.long, .long], returnType := some .long }, accessFlags := 8, code := some k4c0 }
/-- com/example/gasholder/gasholder/Fraction -/
def k4 : Class := { plain "com/example/gasholder/gasholder/Fraction" (some 2) with
  accessFlags := 48
  interfaces := #[3]
  cf := some (fileOf pool4 36 #[] #[{ accessFlags := 8, nameIndex := 126, descriptorIndex := 129, attributes := #[] }] 48 2 #[114] #[{ accessFlags := 18, nameIndex := 39, descriptorIndex := 40, attributes := #[] }, { accessFlags := 18, nameIndex := 43, descriptorIndex := 40, attributes := #[] }, { accessFlags := 24, nameIndex := 112, descriptorIndex := 113, attributes := #[] }])
  fields := #[{ name := "numerator", type := (.object "java/math/BigInteger"), accessFlags := 18, slot := 0, constantValue := 0 }, { name := "denominator", type := (.object "java/math/BigInteger"), accessFlags := 18, slot := 1, constantValue := 0 }, { name := "ZERO", type := (.object "com/example/gasholder/gasholder/Fraction"), accessFlags := 24, slot := 0, constantValue := 0 }]
  methods := #[k4m0]
  instanceTypes := #[(.object "java/math/BigInteger"), (.object "java/math/BigInteger")]
  staticTypes := #[(.object "com/example/gasholder/gasholder/Fraction")]
  resolved := Array.replicate 165 none
  statics := none }

def pool5 : Array CpInfo := pool [(1, u "java/lang/Cloneable"), (0, .class_ 1), (0, u "java/lang/Object"), (0, .class_ 3)] 3

/-- java/lang/Cloneable -/
def k5 : Class := { plain "java/lang/Cloneable" (some 0) with
  accessFlags := 1537
  interfaces := #[]
  cf := some (fileOf pool5 2 #[] #[] 1537 4 #[] #[])
  fields := #[]
  methods := #[]
  instanceTypes := #[]
  staticTypes := #[]
  resolved := Array.replicate 8 none
  statics := none }

def pool6 : Array CpInfo := pool [(1, u "java/io/Serializable"), (0, .class_ 1), (0, u "java/lang/Object"), (0, .class_ 3)] 3

/-- java/io/Serializable -/
def k6 : Class := { plain "java/io/Serializable" (some 0) with
  accessFlags := 1537
  interfaces := #[]
  cf := some (fileOf pool6 2 #[] #[] 1537 4 #[] #[])
  fields := #[]
  methods := #[]
  instanceTypes := #[]
  staticTypes := #[]
  resolved := Array.replicate 8 none
  statics := none }

/-- the primitive byte -/
def k7 : Class := { plain "byte" none with kind := .primitive 'B', accessFlags := 0x411 }
/-- [B -/
def k8 : Class := { plain "[B" (some 0) with kind := .array 7 .byte, interfaces := #[5, 6], accessFlags := 1041 }

/-- the primitive int -/
def k9 : Class := { plain "int" none with kind := .primitive 'I', accessFlags := 0x411 }
/-- [I -/
def k10 : Class := { plain "[I" (some 0) with kind := .array 9 .int, interfaces := #[5, 6], accessFlags := 1041 }

def heap : Heap := #[]
def classes : Array Class := #[k0, k1, k2, k3, k4, k5, k6, k7, k8, k9, k10]
def interned : List (Array UInt16 × Addr) := []
def slotsUsed : Nat := 0
def theMethod : MethodId := ⟨1, 1⟩
def args0 : Array Value := #[.long 5, .long 3]
def aboutOver (below : List Frame) : State where
  vm := { classes := classes, interned := interned.toArray }
  heap := heap
  slotsUsed := slotsUsed
  threads := #[{ frames := .invoking theMethod args0 :: below }]
def below0 : List Frame := [.native { method := ⟨0, 0⟩, args := #[] }]
def about1 : State := aboutOver below0
def p0 : Program := .bare "" "" ""
def e0 : Env := launch0.env 0 0 0
theorem w_frames : about1.frames = Frame.invoking theMethod args0 :: below0 := rfl
set_option maxRecDepth 65536 in
theorem w_args : argsFit about1.vm theMethod args0 = true := by decide +kernel
set_option maxRecDepth 65536 in
theorem w_heap : heapFits about1 = true := by decide +kernel
set_option maxRecDepth 65536 in
theorem w_runnable : about1.curStatus? = some .runnable := by decide +kernel
set_option maxRecDepth 65536 in
theorem w_alone : about1.alone = true := by decide +kernel
set_option maxRecDepth 65536 in
theorem w_named : about1.methodNamed? x = some theMethod := by decide +kernel
set_option maxRecDepth 65536 in
theorem w_hears : about1.hears theMethod below0 = true := by decide +kernel
set_option maxRecDepth 65536 in
theorem w_ripe : about1.ripe theMethod args0 below0 = true := by decide +kernel
theorem w_running : about1.status = .running := rfl
set_option maxRecDepth 65536 in
theorem w_room : about1.hasRoom e0.platform room_1 = true :=
  launch0.hasRoom_least _ room_1 (by decide +kernel) (by decide +kernel) (by decide +kernel) (by decide +kernel) (by decide +kernel) (by decide +kernel)
theorem allAtoms_all (ts : List Jvm.Cond) (a : Array Jvm.Value) (st : Jvm.State) : (allAtoms ts).before a st = ts.all (fun c => c.before a st) := by
  induction ts with
  | nil => rfl
  | cons c t ih =>
    show (Jvm.Cond.and c (allAtoms t)).before a st = _
    rw [Jvm.Cond.before_and, ih, List.all_cons]
def words1 : List Jvm.Cond := Jvm.Cond.code x code maxLocals ret :: tables_1
/-- a 'code' word, met by the world's own term for the bytes: nothing is compared byte by byte -/
theorem code_word {y : MethodName} {bytes : ByteArray} {mx : Nat} {rt : Option FieldType} {a : Array Value} {s : State} {m : MethodId} {meth : Method} {c : Code} (h1 : s.methodNamed? y = some m) (h2 : s.vm.method? m = some meth) (h3 : meth.code = some c) (h4 : c.code = bytes)
    (h5 : (c.maxLocals == mx && c.exceptionTable.isEmpty && decide (c.maxStack ≤ mostOperands) && decide (meth.sig.returnType = rt) && !meth.locks && decide (parseMethodDescriptor y.desc = some meth.sig)) = true) : (Jvm.Cond.code y bytes mx rt).before a s = true := by
  simp only [Bool.and_eq_true, beq_iff_eq, Bool.not_eq_true', decide_eq_true_eq] at h5
  obtain ⟨⟨⟨⟨⟨g1, g2⟩, g3⟩, g4⟩, g5⟩, g6⟩ := h5
  simp [Cond.before, Cond.holds, Cond.value, h1, h2, h3, h4, g1, g2, g3, g4, g5, g6]
def isCode : Jvm.Cond → Bool
  | .code _ _ _ _ => true
  | _ => false
theorem all_split {L : List Jvm.Cond} {P : Jvm.Cond → Bool} (h1 : L.all (fun c => isCode c || P c) = true) (h2 : ∀ c ∈ L.filter isCode, P c = true) : L.all P = true := by
  refine List.all_eq_true.mpr fun c hc => ?_
  have h := List.all_eq_true.mp h1 c hc
  rcases Bool.eq_false_or_eq_true (isCode c) with hi | hi
  · exact h2 c (List.mem_filter.mpr ⟨hc, hi⟩)
  · simpa [hi] using h
set_option maxRecDepth 65536 in
theorem w_c0 : (Jvm.Cond.code x code maxLocals ret).before args0 about1 = true := code_word (m := ⟨1, 1⟩) (meth := k1m1) (c := k1c1) (by decide +kernel) rfl rfl rfl (by decide +kernel)
set_option maxRecDepth 65536 in
theorem w_c1 : (Jvm.Cond.code ({ cls := "com/example/gasholder/gasholder/Fraction", name := "nearest", desc := "(JJ)J" } : Jvm.MethodName) prog_10_method_14_code (8 : Nat) (Option.some Jvm.ClassFile.FieldType.long)).before args0 about1 = true := code_word (m := ⟨4, 0⟩) (meth := k4m0) (c := k4c0) (by decide +kernel) rfl rfl rfl (by decide +kernel)
def codes1 : List Jvm.Cond := [Jvm.Cond.code x code maxLocals ret, Jvm.Cond.code ({ cls := "com/example/gasholder/gasholder/Fraction", name := "nearest", desc := "(JJ)J" } : Jvm.MethodName) prog_10_method_14_code (8 : Nat) (Option.some Jvm.ClassFile.FieldType.long)]
set_option maxRecDepth 65536 in
theorem codes_eq : words1.filter isCode = codes1 := rfl
theorem w_codes : ∀ c ∈ words1.filter isCode, c.before args0 about1 = true := by
  rw [codes_eq]
  intro c hc
  simp only [codes1, List.mem_cons, List.not_mem_nil, or_false] at hc
  rcases hc with rfl | rfl
  · exact w_c0
  · exact w_c1
set_option maxRecDepth 65536 in
theorem w_t1 : words1.all (fun c => isCode c || c.before args0 about1) = true := by decide +kernel
theorem w_tables : (allAtoms (Jvm.Cond.code x code maxLocals ret :: tables_1)).before args0 about1 = true := by
  rw [allAtoms_all]
  show words1.all (fun c => c.before args0 about1) = true
  refine all_split ?_ w_codes
  rw [w_t1]
set_option maxRecDepth 65536 in
theorem w_case : (Jvm.Cond.and given_1 narrow_1).before args0 about1 = true := by decide +kernel
theorem w_applies : (headSpec (Jvm.Cond.code x code maxLocals ret :: tables_1) room_1).applies x e0.platform about1 = true :=
  (Spec.applies_iff w_frames).mpr ⟨w_running, w_runnable, w_alone, w_named, w_hears, w_ripe, w_room, w_tables⟩
theorem atStart : AtStart classFile x code maxLocals ret World_1 tables_1 room_1 Calls_1 rest_1 Pre_1 launch0 p0 e0 about1 theMethod args0 below0 :=
  ⟨lists_1, trivial, launch0.admits_env _ _ _, launch0.least_env, fairChoices_fair.cas, fairChoices_fair.clock, w_frames, w_args, w_heap, w_applies, trivial, trivial, w_case⟩
end start1
theorem witness_1 : WitnessClaimed_1 := ⟨start1.p0, start1.e0, start1.about1, start1.theMethod, start1.args0, start1.below0, start1.atStart⟩
end Jvm.Pilot.@@N@@
