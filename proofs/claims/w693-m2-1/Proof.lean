import JvmDerived
import JvmDerived.Pilot.@@N@@Statement
import JvmDerived.Pilot.@@N@@Code
set_option linter.unusedVariables false
set_option linter.unusedSimpArgs false
namespace Jvm.RoadKit
open Sem ClassFile Op Lib Jvm.Stand Jvm.Free Jvm.LawKit
section OwnKit
variable {p : Program} {l : Launch} {e : Env} {R : Room} {s : State} {m : MethodId} {args : Array Value} {below : List Frame} {meth : Method} {c : Code} {T : State} {locs : List Loc} {cells slots : Nat} {Q : Option Value → Heap → List Loc → Prop} {rc rs : Nat}
theorem retI (X : Stand p l e R s m args below meth c T locs cells slots) (hx : p.tables.exec = Jvm.exec) {pc : Nat} {Ls : Array Slot} {z : Int32} {rest : List Value} (hret : meth.sig.returnType = some .int) (hd : decode c.code pc = .ok (.ireturn, 1)) {fs : List Frame}
    (hl : ∀ (f : JFrame) (acts : List Action), f.method = m → f.locked = none → f.entered = [] → (doReturn e (T.setTop f) acts (some (.int z))).1 = T.setFrames fs) : Steps p.tables e below (T.setTop (mkF m pc Ls (.int z :: rest))) (T.setFrames fs) := by
  have hm' : T.vm.method? m = some meth := X.method'
  have hn : narrow .int (.int z) = .int z := rfl
  show Steps p.tables e below (T.setTop { method := m, pc := pc, locals := Ls, stack := _ :: rest, locked := none }) _
  jvm_step X.here [X.here.top, hx, hd, hm', hret, hn]
  first | (intro acts; rw [hl _ acts rfl rfl rfl]) | rw [hl _ _ rfl rfl rfl]
  exact Steps.refl _
theorem own_retA (X : Stand p l e R s m args below meth c T locs cells slots) (hx : p.tables.exec = Jvm.exec) {pc : Nat} {Ls : Array Slot} {w : Value} {ty : FieldType} {rest : List Value} (hw : w.isRef = true) (hty : ty.isReference = true) (hret : meth.sig.returnType = some ty) (hd : decode c.code pc = .ok (.areturn, 1)) {fs : List Frame}
    (hl : ∀ (f : JFrame) (acts : List Action), f.method = m → f.locked = none → f.entered = [] → (doReturn e (T.setTop f) acts (some w)).1 = T.setFrames fs) : Steps p.tables e below (T.setTop (mkF m pc Ls (w :: rest))) (T.setFrames fs) := by
  have hm' : T.vm.method? m = some meth := X.method'
  show Steps p.tables e below (T.setTop { method := m, pc := pc, locals := Ls, stack := _ :: rest, locked := none }) _
  jvm_step X.here [X.here.top, hx, hd, hm', hret, hw, hty]
  first | (intro acts; rw [hl _ acts rfl rfl rfl]) | rw [hl _ _ rfl rfl rfl]
  exact Steps.refl _
theorem own_retL (X : Stand p l e R s m args below meth c T locs cells slots) (hx : p.tables.exec = Jvm.exec) {pc : Nat} {Ls : Array Slot} {z : Int64} {rest : List Value} (hret : meth.sig.returnType = some .long) (hd : decode c.code pc = .ok (.lreturn, 1)) {fs : List Frame}
    (hl : ∀ (f : JFrame) (acts : List Action), f.method = m → f.locked = none → f.entered = [] → (doReturn e (T.setTop f) acts (some (.long z))).1 = T.setFrames fs) : Steps p.tables e below (T.setTop (mkF m pc Ls (.long z :: rest))) (T.setFrames fs) := by
  have hm' : T.vm.method? m = some meth := X.method'
  show Steps p.tables e below (T.setTop { method := m, pc := pc, locals := Ls, stack := _ :: rest, locked := none }) _
  jvm_step X.here [X.here.top, hx, hd, hm', hret]
  first | (intro acts; rw [hl _ acts rfl rfl rfl]) | rw [hl _ _ rfl rfl rfl]
  exact Steps.refl _
theorem own_retDbl (X : Stand p l e R s m args below meth c T locs cells slots) (hx : p.tables.exec = Jvm.exec) {pc : Nat} {Ls : Array Slot} {z : UInt64} {rest : List Value} (hret : meth.sig.returnType = some .double) (hd : decode c.code pc = .ok (.dreturn, 1)) {fs : List Frame}
    (hl : ∀ (f : JFrame) (acts : List Action), f.method = m → f.locked = none → f.entered = [] → (doReturn e (T.setTop f) acts (some (.double z))).1 = T.setFrames fs) : Steps p.tables e below (T.setTop (mkF m pc Ls (.double z :: rest))) (T.setFrames fs) := by
  have hm' : T.vm.method? m = some meth := X.method'
  show Steps p.tables e below (T.setTop { method := m, pc := pc, locals := Ls, stack := _ :: rest, locked := none }) _
  jvm_step X.here [X.here.top, hx, hd, hm', hret]
  first | (intro acts; rw [hl _ acts rfl rfl rfl]) | rw [hl _ _ rfl rfl rfl]
  exact Steps.refl _
/-- what is left to be shown from the state A on: the run comes back, and Q holds of what it leaves -/
def OwnG (p : Program) (e : Env) (below : List Frame) (s : State) (Q : Option Value → Heap → List Loc → Prop) (rc rs : Nat) (A : State) : Prop :=
  ∃ s₂ o, Steps p.tables e below A s₂ ∧ s₂.status = .running ∧ Ended s₂ below o ∧ ∃ v L, o = .returned v ∧ Q v s₂.heap L ∧ FrameEnd s o s₂ L rc rs
theorem own_by {A B : State} (k : ∀ t, Steps p.tables e below B t → Steps p.tables e below A t) (h : OwnG p e below s Q rc rs B) : OwnG p e below s Q rc rs A := by
  obtain ⟨s₂, o, h1, r⟩ := h
  exact ⟨s₂, o, k _ h1, r⟩
theorem own_out (X : Stand p l e R s m args below meth c T locs cells slots) {v : Option Value} (hv : meth.sig.returnType = none → v = none) (hlk : meth.locks = false) {A : State}
    (k : ∀ fs, (∀ (f : JFrame) (acts : List Action), f.method = m → f.locked = none → f.entered = [] → (doReturn e (T.setTop f) acts v).1 = T.setFrames fs) → Steps p.tables e below A (T.setFrames fs)) (hQ : Q v T.heap locs) (hc : cells ≤ rc) (hs : slots ≤ rs) : OwnG p e below s Q rc rs A := by
  obtain ⟨fs, hr, hrun, hended, hW, hsame⟩ := X.leave (v := v) hv hlk
  exact ⟨_, _, k fs hr, hrun, hended, _, _, rfl, hQ, ⟨_, rfl⟩, hW, hsame.mono hc hs⟩
theorem own_outI (X : Stand p l e R s m args below meth c T locs cells slots) (hx : p.tables.exec = Jvm.exec) {pc : Nat} {Ls : Array Slot} {z : Int32} {rest : List Value} (hret : meth.sig.returnType = some .int) (hlk : meth.locks = false) (hd : decode c.code pc = .ok (.ireturn, 1)) (hQ : Q (some (.int z)) T.heap locs) (hc : cells ≤ rc) (hs : slots ≤ rs) :
    OwnG p e below s Q rc rs (T.setTop (mkF m pc Ls (.int z :: rest))) :=
  own_out X (v := some (.int z)) (fun h => by rw [hret] at h; cases h) hlk (fun fs hr => retI X hx hret hd hr) hQ hc hs
theorem own_outA (X : Stand p l e R s m args below meth c T locs cells slots) (hx : p.tables.exec = Jvm.exec) {pc : Nat} {Ls : Array Slot} {w : Value} {ty : FieldType} {rest : List Value} (hw : w.isRef = true) (hty : ty.isReference = true) (hret : meth.sig.returnType = some ty) (hlk : meth.locks = false) (hd : decode c.code pc = .ok (.areturn, 1)) (hQ : Q (some w) T.heap locs) (hc : cells ≤ rc) (hs : slots ≤ rs) :
    OwnG p e below s Q rc rs (T.setTop (mkF m pc Ls (w :: rest))) :=
  own_out X (v := some w) (fun h => by rw [hret] at h; cases h) hlk (fun fs hr => own_retA X hx hw hty hret hd hr) hQ hc hs
theorem own_outL (X : Stand p l e R s m args below meth c T locs cells slots) (hx : p.tables.exec = Jvm.exec) {pc : Nat} {Ls : Array Slot} {z : Int64} {rest : List Value} (hret : meth.sig.returnType = some .long) (hlk : meth.locks = false) (hd : decode c.code pc = .ok (.lreturn, 1)) (hQ : Q (some (.long z)) T.heap locs) (hc : cells ≤ rc) (hs : slots ≤ rs) :
    OwnG p e below s Q rc rs (T.setTop (mkF m pc Ls (.long z :: rest))) :=
  own_out X (v := some (.long z)) (fun h => by rw [hret] at h; cases h) hlk (fun fs hr => own_retL X hx hret hd hr) hQ hc hs
theorem own_outD (X : Stand p l e R s m args below meth c T locs cells slots) (hx : p.tables.exec = Jvm.exec) {pc : Nat} {Ls : Array Slot} {z : UInt64} {rest : List Value} (hret : meth.sig.returnType = some .double) (hlk : meth.locks = false) (hd : decode c.code pc = .ok (.dreturn, 1)) (hQ : Q (some (.double z)) T.heap locs) (hc : cells ≤ rc) (hs : slots ≤ rs) :
    OwnG p e below s Q rc rs (T.setTop (mkF m pc Ls (.double z :: rest))) :=
  own_out X (v := some (.double z)) (fun h => by rw [hret] at h; cases h) hlk (fun fs hr => own_retDbl X hx hret hd hr) hQ hc hs
theorem own_outV (X : Stand p l e R s m args below meth c T locs cells slots) (hx : p.tables.exec = Jvm.exec) {pc : Nat} {Ls : Array Slot} (hret : meth.sig.returnType = none) (hlk : meth.locks = false) (hd : decode c.code pc = .ok (.return_, 1)) (hQ : Q none T.heap locs) (hc : cells ≤ rc) (hs : slots ≤ rs) :
    OwnG p e below s Q rc rs (T.setTop (mkF m pc Ls [])) :=
  own_out X (v := none) (fun _ => rfl) hlk (fun fs hr => X.returnOut hx hret hd hr) hQ hc hs
theorem own_outN (X : Stand p l e R s m args below meth c T locs cells slots) (hx : p.tables.exec = Jvm.exec) {pc : Nat} {Ls : Array Slot} {z z' : Int32} {t : FieldType} {rest : List Value} (hret : meth.sig.returnType = some t) (ht : t = .boolean ∨ t = .byte ∨ t = .char ∨ t = .short) (hlk : meth.locks = false) (hd : decode c.code pc = .ok (.ireturn, 1)) (hz : nar t z = z') (hQ : Q (some (.int z')) T.heap locs) (hc : cells ≤ rc) (hs : slots ≤ rs) :
    OwnG p e below s Q rc rs (T.setTop (mkF m pc Ls (.int z :: rest))) := by
  subst hz
  exact own_out X (v := some (.int (nar t z))) (fun h => by rw [hret] at h; cases h) hlk (fun fs hr => retN X hx (t := t) hret (by rcases ht with rfl | rfl | rfl | rfl <;> simp) hd hr) hQ hc hs
theorem own_met {y : MethodName} {bytes : ByteArray} {maxL : Nat} {ret : Option FieldType} {rm : Room} {ws : List Cond} {as' : Array Value} {Z : State} {h0 : Heap} (hpl : plainFor y = true)
    (body : ∀ (p : Program) (e : Env) (s : State) (m : MethodId) (below : List Frame) (meth : Method) (c : Code) (s₁ : State), p.tables.exec = Jvm.exec → c.code = bytes → c.maxLocals = maxL → meth.sig.returnType = ret → meth.locks = false → s.vm.findClass y.cls = some m.cls → meth.name = y.name → Z.Warmed39 s.vm →
      Stand p l e rm s m as' below meth c s₁ [] 0 0 → s₁.heap = h0 → OwnG p e below s Q rm.cells rm.slots (s₁.setTop (entryFrame m as' maxL))) :
    MetFree l y (head1 (Cond.code y bytes maxL ret :: ws) rm) (fun a U => a = as' ∧ Z.Warmed39 U.vm ∧ U.heap = h0) (fun _ _ _ _ _ => True) (fun _ U o U' => ∃ v L, o = .returned v ∧ Q v U'.heap L ∧ FrameEnd U o U' L rm.cells rm.slots) := by
  refine MetFree.of_bodySF hpl hisR ?_
  intro p e s m args below meth c s₁ Bd hml0 hP hK
  obtain ⟨rfl, hZ, hh⟩ := hP
  have e0 : s₁.heap = h0 := by rw [← hh, Bd.state]; rfl
  exact body p e s m below meth c s₁ Bd.exec Bd.bytes hml0 Bd.returns Bd.notSynchronized (findClass_of_methodNamed Bd.named) (name_of_methodNamed Bd.named Bd.method).1 hZ (Stand.of_body Bd) e0
theorem own_pop2J {tb : Tables} [Ours tb] {target : State} {g : JFrame} (h : At T m c below) (hx : tb.exec = Jvm.exec) (hg : g.method = m) {x : Int64} {rest : List Value} (hd : decode c.code g.pc = .ok (.pop2, 1)) (hs : g.stack = .long x :: rest)
    (hr : Steps tb e below (T.setTop { g with pc := g.pc + 1, stack := rest }) target) : Steps tb e below (T.setTop g) target := by
  subst hg
  jvm_step h [h.top, hx, hd, hs, Value.category]
  exact hr
theorem own_dup2I {tb : Tables} [Ours tb] {target : State} {g : JFrame} (h : At T m c below) (hx : tb.exec = Jvm.exec) (hg : g.method = m) {x : Int32} {a : Addr} {rest : List Value} (hd : decode c.code g.pc = .ok (.dup2, 1)) (hs : g.stack = .int x :: .ref a :: rest)
    (hr : Steps tb e below (T.setTop { g with pc := g.pc + 1, stack := .int x :: .ref a :: .int x :: .ref a :: rest }) target) : Steps tb e below (T.setTop g) target := by
  subst hg
  jvm_step h [h.top, hx, hd, hs, Value.category]
  exact hr
theorem own_selp {Z s : State} {a0 args : Array Value} {y : MethodName} {n : Nat} (hZ : Z.Warmed39 s.vm) (wi : (Cond.instantiable y.cls n).before a0 Z = true) (wp : (Cond.privateMethod y).before a0 Z = true) (wm : (Cond.instanceMethod y).before a0 Z = true) (hy : y.cls ≠ "java/lang/invoke/MethodHandle" ∧ y.cls ≠ "java/lang/invoke/VarHandle") : (Cond.selects y.cls y y).before args s = true := by
  obtain ⟨c, k, h1, h2, -, h4, -⟩ := Cond.instantiable_spec (mv (args := args) hZ wi)
  exact selects_self_of_private h1 h2 (Bool.or_eq_false_iff.mp h4).1 (Cond.privateMethod_at (mvP hZ wp (args := #[]))) (mvT hZ wm) hy
end OwnKit
end Jvm.RoadKit
namespace Jvm.Pilot.@@N@@
open Jvm Jvm.ClassFile Sem Op Lib Jvm.Free Jvm.Stand Jvm.LawKit Jvm.RoadKit Bundle Jvm.Pilot.@@N@@.Jvm.D
theorem own_b53 (a : Int32) : B53 a.toInt64 := by
  have h1 := a.le_toInt
  have h2 := a.toInt_lt
  unfold B53
  rw [Int32.toInt_toInt64]
  omega
theorem own_dc (a b : Int32) (o : CmpOp) : cmpValue (FP.dcmp (FP.i2d a) (FP.i2d b)) o = lcmpW a.toInt64 b.toInt64 := by
  rw [i2d_w, i2d_w]; exact dcmpV_w (own_b53 a) (own_b53 b) o
def own_bf (a i b j : Int32) : Int32 := if b.toInt64 < a.toInt64 ∨ (a.toInt64 = b.toInt64 ∧ i < j) then 1 else 0
def own_rk (k i : Int32) : Int64 := (k.toInt64 <<< ((32 : Int32) &&& 0x3f).toInt64) + ((2147483647 : Int64) - i.toInt64)
theorem own_sh (x : Int64) : x <<< ((32 : Int32) &&& 0x3f).toInt64 = x * 4294967296 := by
  apply Int64.toBitVec_inj.mp
  rw [Int64.toBitVec_shiftLeft, Int64.toBitVec_mul]
  have : (((32 : Int32) &&& 0x3f).toInt64.toBitVec.smod 64) = 32#64 := by decide
  rw [this]
  show x.toBitVec <<< (32#64) = x.toBitVec * 4294967296#64
  rw [BitVec.shiftLeft_eq']
  show x.toBitVec <<< 32 = _
  rw [BitVec.shiftLeft_eq_mul_twoPow]
  rfl
theorem own_rkv (k i : Int32) : (own_rk k i).toInt = k.toInt * 4294967296 + (2147483647 - i.toInt) := by
  unfold own_rk
  rw [own_sh]
  have hk := rng32 k
  have hi := rng32 i
  have e1 := c_lmul k.toInt64 4294967296
  have e2 := c_lsub 2147483647 i.toInt64
  have e3 := c_ladd (k.toInt64 * 4294967296) (2147483647 - i.toInt64)
  rw [Int32.toInt_toInt64, show (4294967296 : Int64).toInt = 4294967296 from by decide] at e1
  rw [Int32.toInt_toInt64, show (2147483647 : Int64).toInt = 2147483647 from by decide] at e2
  have b1 := rng64 (k.toInt64 * 4294967296)
  have b2 := rng64 (2147483647 - i.toInt64)
  have b3 := rng64 (k.toInt64 * 4294967296 + (2147483647 - i.toInt64))
  omega
theorem own_iff (a i b j : Int32) : own_rk b j < own_rk a i ↔ (b.toInt64 < a.toInt64 ∨ (a.toInt64 = b.toInt64 ∧ i < j)) := by
  rw [Int64.lt_iff_toInt_lt, own_rkv, own_rkv, Int64.lt_iff_toInt_lt, Int32.toInt_toInt64, Int32.toInt_toInt64, Int32.lt_iff_toInt_lt]
  have ha := rng32 a; have hi := rng32 i; have hb := rng32 b; have hj := rng32 j
  have e : a.toInt64 = b.toInt64 ↔ a.toInt = b.toInt := by
    rw [← Int64.toInt_inj, Int32.toInt_toInt64, Int32.toInt_toInt64]
  rw [e]
  omega
theorem own_T {a i b j : Int32} (h : own_rk b j < own_rk a i) : own_bf a i b j = 1 := if_pos ((own_iff a i b j).mp h)
theorem own_F {a i b j : Int32} (h : ¬ own_rk b j < own_rk a i) : own_bf a i b j = 0 := if_neg fun q => h ((own_iff a i b j).mpr q)
theorem d1_0 : decode method_3_code 0 = .ok (.iload_n 0, 1) := by decide +kernel
theorem d1_1 : decode method_3_code 1 = .ok (.i2l, 1) := by decide +kernel
theorem d1_2 : decode method_3_code 2 = .ok (.bipush 32, 2) := by decide +kernel
theorem d1_4 : decode method_3_code 4 = .ok (.lshl, 1) := by decide +kernel
theorem d1_5 : decode method_3_code 5 = .ok (.ldc2_w 19, 3) := by decide +kernel
theorem d1_8 : decode method_3_code 8 = .ok (.iload_n 1, 1) := by decide +kernel
theorem d1_9 : decode method_3_code 9 = .ok (.i2l, 1) := by decide +kernel
theorem d1_10 : decode method_3_code 10 = .ok (.lsub, 1) := by decide +kernel
theorem d1_11 : decode method_3_code 11 = .ok (.ladd, 1) := by decide +kernel
theorem d1_12 : decode method_3_code 12 = .ok (.lreturn, 1) := by decide +kernel
theorem pn_0 : plainName "com/example/score_on_crawl/scoreoncrawl/engine/PageTreeBeforePinLaw" = true := by first | (simp [plainName, overriddenIn]; done) | decide +kernel
theorem ef_1 (m : MethodId) (x0 : Int32) (x1 : Int32) : entryFrame m #[(.int x0), (.int x1)] 2 = mkF m 0 #[.val (.int x0), .val (.int x1)] [] := by first | (simp [entryFrame, mkF, argsToLocals, Value.category]; done) | rfl
def Q1 (Z : State) (k i : Int32) (h0 : Heap) (n0 : Nat) (v : Option Value) (h : Heap) (L : List Loc) : Prop := v = some (.long (own_rk k i)) ∧ Fr n0 L ∧ h = h0
set_option maxRecDepth 65536 in
set_option maxHeartbeats 40000000 in
theorem rm1 (l : Launch) (Z : State) (a0 : Array Value) (hw : ∀ d ∈ tables_1, d.before a0 Z = true) (ws : List Jvm.Cond) (k i : Int32) (h0 : Heap) (n0 : Nat) (Z0 : n0 ≤ h0.size) :
    MetFree l (⟨"com/example/score_on_crawl/scoreoncrawl/engine/PageTreeBeforePinLaw", "rank", "(II)J"⟩ : MethodName) (head1 (Jvm.Cond.code (⟨"com/example/score_on_crawl/scoreoncrawl/engine/PageTreeBeforePinLaw", "rank", "(II)J"⟩ : MethodName) method_3_code 2 (some .long) :: ws) ({ frames := 0, cells := 0, slots := 0, locals := 0 } : Room)) (fun aa_ U => aa_ = #[(.int k), (.int i)] ∧ Z.Warmed39 U.vm ∧ U.heap = h0) (fun _ _ _ _ _ => True) (fun _ U o U' => ∃ v L, o = .returned v ∧ Q1 Z k i h0 n0 v U'.heap L ∧ FrameEnd U o U' L ({ frames := 0, cells := 0, slots := 0, locals := 0 } : Room).cells ({ frames := 0, cells := 0, slots := 0, locals := 0 } : Room).slots) := by
  refine own_met (Q := fun v h L => Q1 Z k i h0 n0 v h L) (plainFor_of_name pn_0) ?_
  intro p e s m below meth c s₁ hx hby hml hret hlk hown hnm hZ X0 e0
  have N0 := Fr.nil n0
  rw [ef_1 m k i]
  show OwnG p e below s _ _ _ (s₁.setTop (mkF m 0 #[.val (.int k), .val (.int i)] []))
  refine own_by (fun t kk_ => XS.iloadN X0.here hx rfl (hb hby d1_0) rfl  kk_) ?_
  show OwnG p e below s _ _ _ (s₁.setTop (mkF m 1 #[.val (.int k), .val (.int i)] [(.int k)]))
  refine own_by (fun t kk_ => XS.i2l X0.here hx rfl (hb hby d1_1) rfl kk_) ?_
  show OwnG p e below s _ _ _ (s₁.setTop (mkF m 2 #[.val (.int k), .val (.int i)] [(.long (k.toInt64))]))
  refine own_by (fun t kk_ => XS.bipush X0.here hx rfl (hb hby d1_2) kk_) ?_
  show OwnG p e below s _ _ _ (s₁.setTop (mkF m 4 #[.val (.int k), .val (.int i)] [(.int (32 : Int32)), (.long (k.toInt64))]))
  refine own_by (fun t kk_ => XS.lshl X0.here hx rfl (hb hby d1_4) rfl kk_) ?_
  show OwnG p e below s _ _ _ (s₁.setTop (mkF m 5 #[.val (.int k), .val (.int i)] [(.long ((k.toInt64) <<< ((32 : Int32) &&& 0x3f).toInt64))]))
  refine own_by (fun t kk_ => X0.ldc2Long hx hown (mvT hZ (hw _ (List.mem_of_getElem? (i := 4) rfl))) (g := (mkF m 5 #[.val (.int k), .val (.int i)] [(.long ((k.toInt64) <<< ((32 : Int32) &&& 0x3f).toInt64))])) rfl (hb hby d1_5) _ kk_) ?_
  show OwnG p e below s _ _ _ (s₁.setTop (mkF m 8 #[.val (.int k), .val (.int i)] [(.long (2147483647 : Int64)), (.long ((k.toInt64) <<< ((32 : Int32) &&& 0x3f).toInt64))]))
  refine own_by (fun t kk_ => XS.iloadN X0.here hx rfl (hb hby d1_8) rfl  kk_) ?_
  show OwnG p e below s _ _ _ (s₁.setTop (mkF m 9 #[.val (.int k), .val (.int i)] [(.int i), (.long (2147483647 : Int64)), (.long ((k.toInt64) <<< ((32 : Int32) &&& 0x3f).toInt64))]))
  refine own_by (fun t kk_ => XS.i2l X0.here hx rfl (hb hby d1_9) rfl kk_) ?_
  show OwnG p e below s _ _ _ (s₁.setTop (mkF m 10 #[.val (.int k), .val (.int i)] [(.long (i.toInt64)), (.long (2147483647 : Int64)), (.long ((k.toInt64) <<< ((32 : Int32) &&& 0x3f).toInt64))]))
  refine own_by (fun t kk_ => XS.lsub X0.here hx rfl (hb hby d1_10) rfl kk_) ?_
  show OwnG p e below s _ _ _ (s₁.setTop (mkF m 11 #[.val (.int k), .val (.int i)] [(.long ((2147483647 : Int64) - (i.toInt64))), (.long ((k.toInt64) <<< ((32 : Int32) &&& 0x3f).toInt64))]))
  refine own_by (fun t kk_ => XS.ladd X0.here hx rfl (hb hby d1_11) rfl kk_) ?_
  show OwnG p e below s _ _ _ (s₁.setTop (mkF m 12 #[.val (.int k), .val (.int i)] [(.long (((k.toInt64) <<< ((32 : Int32) &&& 0x3f).toInt64) + ((2147483647 : Int64) - (i.toInt64))))]))
  exact own_outL X0 hx hret hlk (hb hby d1_12) (⟨rfl, N0, e0⟩) (by decide) (by decide)
theorem d2_0 : decode prog_17_method_2_code 0 = .ok (.dload_n 0, 1) := by decide +kernel
theorem d2_1 : decode prog_17_method_2_code 1 = .ok (.dload_n 3, 1) := by decide +kernel
theorem d2_2 : decode prog_17_method_2_code 2 = .ok (.dcmp .l, 1) := by decide +kernel
theorem d2_3 : decode prog_17_method_2_code 3 = .ok (.ifCond .gt 15, 3) := by decide +kernel
theorem d2_6 : decode prog_17_method_2_code 6 = .ok (.dload_n 0, 1) := by decide +kernel
theorem d2_7 : decode prog_17_method_2_code 7 = .ok (.dload_n 3, 1) := by decide +kernel
theorem d2_8 : decode prog_17_method_2_code 8 = .ok (.dcmp .l, 1) := by decide +kernel
theorem d2_9 : decode prog_17_method_2_code 9 = .ok (.ifCond .ne 13, 3) := by decide +kernel
theorem d2_12 : decode prog_17_method_2_code 12 = .ok (.iload_n 2, 1) := by decide +kernel
theorem d2_13 : decode prog_17_method_2_code 13 = .ok (.iload 5, 2) := by decide +kernel
theorem d2_15 : decode prog_17_method_2_code 15 = .ok (.if_icmp .ge 7, 3) := by decide +kernel
theorem d2_18 : decode prog_17_method_2_code 18 = .ok (.iconst 1, 1) := by decide +kernel
theorem d2_19 : decode prog_17_method_2_code 19 = .ok (.goto 4, 3) := by decide +kernel
theorem d2_22 : decode prog_17_method_2_code 22 = .ok (.iconst 0, 1) := by decide +kernel
theorem d2_23 : decode prog_17_method_2_code 23 = .ok (.ireturn, 1) := by decide +kernel
theorem pn_1 : plainName "com/example/score_on_crawl/scoreoncrawl/engine/PageTree" = true := by first | (simp [plainName, overriddenIn]; done) | decide +kernel
theorem ef_2 (m : MethodId) (x0 : UInt64) (x1 : Int32) (x2 : UInt64) (x3 : Int32) : entryFrame m #[(.double x0), (.int x1), (.double x2), (.int x3)] 6 = mkF m 0 #[.val (.double x0), .second, .val (.int x1), .val (.double x2), .second, .val (.int x3)] [] := by first | (simp [entryFrame, mkF, argsToLocals, Value.category]; done) | rfl
def Q2 (Z : State) (a i b j : Int32) (h0 : Heap) (n0 : Nat) (v : Option Value) (h : Heap) (L : List Loc) : Prop := v = some (.int (own_bf a i b j)) ∧ Fr n0 L ∧ h = h0
set_option maxRecDepth 65536 in
set_option maxHeartbeats 40000000 in
theorem rm2 (l : Launch) (Z : State) (a0 : Array Value) (hw : ∀ d ∈ tables_1, d.before a0 Z = true) (ws : List Jvm.Cond) (a i b j : Int32) (h0 : Heap) (n0 : Nat) (Z0 : n0 ≤ h0.size) :
    MetFree l (⟨"com/example/score_on_crawl/scoreoncrawl/engine/PageTree", "before", "(DIDI)Z"⟩ : MethodName) (head1 (Jvm.Cond.code (⟨"com/example/score_on_crawl/scoreoncrawl/engine/PageTree", "before", "(DIDI)Z"⟩ : MethodName) prog_17_method_2_code 6 (some .boolean) :: ws) ({ frames := 0, cells := 0, slots := 0, locals := 0 } : Room)) (fun aa_ U => aa_ = #[(.double (FP.i2d a)), (.int i), (.double (FP.i2d b)), (.int j)] ∧ Z.Warmed39 U.vm ∧ U.heap = h0) (fun _ _ _ _ _ => True) (fun _ U o U' => ∃ v L, o = .returned v ∧ Q2 Z a i b j h0 n0 v U'.heap L ∧ FrameEnd U o U' L ({ frames := 0, cells := 0, slots := 0, locals := 0 } : Room).cells ({ frames := 0, cells := 0, slots := 0, locals := 0 } : Room).slots) := by
  refine own_met (Q := fun v h L => Q2 Z a i b j h0 n0 v h L) (plainFor_of_name pn_1) ?_
  intro p e s m below meth c s₁ hx hby hml hret hlk hown hnm hZ X0 e0
  have N0 := Fr.nil n0
  rw [ef_2 m (FP.i2d a) i (FP.i2d b) j]
  show OwnG p e below s _ _ _ (s₁.setTop (mkF m 0 #[.val (.double (FP.i2d a)), .second, .val (.int i), .val (.double (FP.i2d b)), .second, .val (.int j)] []))
  refine own_by (fun t kk_ => XS.dloadN X0.here hx rfl (hb hby d2_0) rfl  kk_) ?_
  show OwnG p e below s _ _ _ (s₁.setTop (mkF m 1 #[.val (.double (FP.i2d a)), .second, .val (.int i), .val (.double (FP.i2d b)), .second, .val (.int j)] [(.double (FP.i2d a))]))
  refine own_by (fun t kk_ => XS.dloadN X0.here hx rfl (hb hby d2_1) rfl  kk_) ?_
  show OwnG p e below s _ _ _ (s₁.setTop (mkF m 2 #[.val (.double (FP.i2d a)), .second, .val (.int i), .val (.double (FP.i2d b)), .second, .val (.int j)] [(.double (FP.i2d b)), (.double (FP.i2d a))]))
  refine own_by (fun t kk_ => XS.dcmpS X0.here hx rfl (hb hby d2_2) rfl rfl kk_) ?_
  show OwnG p e below s _ _ _ (s₁.setTop (mkF m 3 #[.val (.double (FP.i2d a)), .second, .val (.int i), .val (.double (FP.i2d b)), .second, .val (.int j)] [(.int (cmpValue (FP.dcmp (FP.i2d a) (FP.i2d b)) .l))]))
  rw [own_dc]
  show OwnG p e below s _ _ _ (s₁.setTop (mkF m 3 #[.val (.double (FP.i2d a)), .second, .val (.int i), .val (.double (FP.i2d b)), .second, .val (.int j)] [(.int (lcmpW a.toInt64 b.toInt64))]))
  by_cases hb3_1 : b.toInt64 < a.toInt64
  · refine own_by (fun t kk_ => XS.ifYes X0.here hx rfl (pc0 := 3) (pc' := 18) rfl (hb hby d2_3) rfl ((if0 _ _).trans (tlt ((lw_gt _ _).mpr hb3_1)).2.2.1) (by decide) (by decide) kk_) ?_
    show OwnG p e below s _ _ _ (s₁.setTop (mkF m 18 #[.val (.double (FP.i2d a)), .second, .val (.int i), .val (.double (FP.i2d b)), .second, .val (.int j)] []))
    refine own_by (fun t kk_ => XS.iconst X0.here hx rfl (hb hby d2_18) kk_) ?_
    show OwnG p e below s _ _ _ (s₁.setTop (mkF m 19 #[.val (.double (FP.i2d a)), .second, .val (.int i), .val (.double (FP.i2d b)), .second, .val (.int j)] [(.int (1 : Int32))]))
    refine own_by (fun t kk_ => XS.goto X0.here hx rfl (pc0 := 19) (pc' := 23) rfl (hb hby d2_19) (by decide) (by decide) kk_) ?_
    show OwnG p e below s _ _ _ (s₁.setTop (mkF m 23 #[.val (.double (FP.i2d a)), .second, .val (.int i), .val (.double (FP.i2d b)), .second, .val (.int j)] [(.int (1 : Int32))]))
    exact own_outN X0 hx hret (by simp) hlk (hb hby d2_23) rfl (⟨by simp [own_bf, nar, hb3_1], N0, e0⟩) (by decide) (by decide)
  · refine own_by (fun t kk_ => XS.ifNo X0.here hx rfl (hb hby d2_3) rfl ((if0 _ _).trans (flt (fun q => hb3_1 ((lw_gt _ _).mp q))).2.2.1) kk_) ?_
    show OwnG p e below s _ _ _ (s₁.setTop (mkF m 6 #[.val (.double (FP.i2d a)), .second, .val (.int i), .val (.double (FP.i2d b)), .second, .val (.int j)] []))
    refine own_by (fun t kk_ => XS.dloadN X0.here hx rfl (hb hby d2_6) rfl  kk_) ?_
    show OwnG p e below s _ _ _ (s₁.setTop (mkF m 7 #[.val (.double (FP.i2d a)), .second, .val (.int i), .val (.double (FP.i2d b)), .second, .val (.int j)] [(.double (FP.i2d a))]))
    refine own_by (fun t kk_ => XS.dloadN X0.here hx rfl (hb hby d2_7) rfl  kk_) ?_
    show OwnG p e below s _ _ _ (s₁.setTop (mkF m 8 #[.val (.double (FP.i2d a)), .second, .val (.int i), .val (.double (FP.i2d b)), .second, .val (.int j)] [(.double (FP.i2d b)), (.double (FP.i2d a))]))
    refine own_by (fun t kk_ => XS.dcmpS X0.here hx rfl (hb hby d2_8) rfl rfl kk_) ?_
    show OwnG p e below s _ _ _ (s₁.setTop (mkF m 9 #[.val (.double (FP.i2d a)), .second, .val (.int i), .val (.double (FP.i2d b)), .second, .val (.int j)] [(.int (cmpValue (FP.dcmp (FP.i2d a) (FP.i2d b)) .l))]))
    rw [own_dc]
    show OwnG p e below s _ _ _ (s₁.setTop (mkF m 9 #[.val (.double (FP.i2d a)), .second, .val (.int i), .val (.double (FP.i2d b)), .second, .val (.int j)] [(.int (lcmpW a.toInt64 b.toInt64))]))
    by_cases hb9_2 : a.toInt64 = b.toInt64
    · refine own_by (fun t kk_ => XS.ifNo X0.here hx rfl (hb hby d2_9) rfl ((if0 _ _).trans (teq ((lw_eq _ _).mpr hb9_2)).2) kk_) ?_
      show OwnG p e below s _ _ _ (s₁.setTop (mkF m 12 #[.val (.double (FP.i2d a)), .second, .val (.int i), .val (.double (FP.i2d b)), .second, .val (.int j)] []))
      refine own_by (fun t kk_ => XS.iloadN X0.here hx rfl (hb hby d2_12) rfl  kk_) ?_
      show OwnG p e below s _ _ _ (s₁.setTop (mkF m 13 #[.val (.double (FP.i2d a)), .second, .val (.int i), .val (.double (FP.i2d b)), .second, .val (.int j)] [(.int i)]))
      refine own_by (fun t kk_ => XS.iload X0.here hx rfl (hb hby d2_13) rfl  kk_) ?_
      show OwnG p e below s _ _ _ (s₁.setTop (mkF m 15 #[.val (.double (FP.i2d a)), .second, .val (.int i), .val (.double (FP.i2d b)), .second, .val (.int j)] [(.int j), (.int i)]))
      by_cases hb15_3 : i < j
      · refine own_by (fun t kk_ => XS.icmpNo X0.here hx rfl (hb hby d2_15) rfl (tlt hb15_3).2.1 kk_) ?_
        show OwnG p e below s _ _ _ (s₁.setTop (mkF m 18 #[.val (.double (FP.i2d a)), .second, .val (.int i), .val (.double (FP.i2d b)), .second, .val (.int j)] []))
        refine own_by (fun t kk_ => XS.iconst X0.here hx rfl (hb hby d2_18) kk_) ?_
        show OwnG p e below s _ _ _ (s₁.setTop (mkF m 19 #[.val (.double (FP.i2d a)), .second, .val (.int i), .val (.double (FP.i2d b)), .second, .val (.int j)] [(.int (1 : Int32))]))
        refine own_by (fun t kk_ => XS.goto X0.here hx rfl (pc0 := 19) (pc' := 23) rfl (hb hby d2_19) (by decide) (by decide) kk_) ?_
        show OwnG p e below s _ _ _ (s₁.setTop (mkF m 23 #[.val (.double (FP.i2d a)), .second, .val (.int i), .val (.double (FP.i2d b)), .second, .val (.int j)] [(.int (1 : Int32))]))
        exact own_outN X0 hx hret (by simp) hlk (hb hby d2_23) rfl (⟨by simp [own_bf, nar, hb3_1, hb9_2, hb15_3], N0, e0⟩) (by decide) (by decide)
      · refine own_by (fun t kk_ => XS.icmpYes X0.here hx rfl (pc0 := 15) (pc' := 22) rfl (hb hby d2_15) rfl (flt hb15_3).2.1 (by decide) (by decide) kk_) ?_
        show OwnG p e below s _ _ _ (s₁.setTop (mkF m 22 #[.val (.double (FP.i2d a)), .second, .val (.int i), .val (.double (FP.i2d b)), .second, .val (.int j)] []))
        refine own_by (fun t kk_ => XS.iconst X0.here hx rfl (hb hby d2_22) kk_) ?_
        show OwnG p e below s _ _ _ (s₁.setTop (mkF m 23 #[.val (.double (FP.i2d a)), .second, .val (.int i), .val (.double (FP.i2d b)), .second, .val (.int j)] [(.int (0 : Int32))]))
        exact own_outN X0 hx hret (by simp) hlk (hb hby d2_23) rfl (⟨by simp [own_bf, nar, hb3_1, hb9_2, hb15_3], N0, e0⟩) (by decide) (by decide)
    · refine own_by (fun t kk_ => XS.ifYes X0.here hx rfl (pc0 := 9) (pc' := 22) rfl (hb hby d2_9) rfl ((if0 _ _).trans (feq (fun q => hb9_2 ((lw_eq _ _).mp q))).2) (by decide) (by decide) kk_) ?_
      show OwnG p e below s _ _ _ (s₁.setTop (mkF m 22 #[.val (.double (FP.i2d a)), .second, .val (.int i), .val (.double (FP.i2d b)), .second, .val (.int j)] []))
      refine own_by (fun t kk_ => XS.iconst X0.here hx rfl (hb hby d2_22) kk_) ?_
      show OwnG p e below s _ _ _ (s₁.setTop (mkF m 23 #[.val (.double (FP.i2d a)), .second, .val (.int i), .val (.double (FP.i2d b)), .second, .val (.int j)] [(.int (0 : Int32))]))
      exact own_outN X0 hx hret (by simp) hlk (hb hby d2_23) rfl (⟨by simp [own_bf, nar, hb3_1, hb9_2], N0, e0⟩) (by decide) (by decide)
theorem pd_0 : parseMethodDescriptor "(II)J" = some ⟨[.int, .int], some .long⟩ := by decide +kernel
theorem pd_1 : parseMethodDescriptor "(DIDI)Z" = some ⟨[.double, .int, .double, .int], some .boolean⟩ := by decide +kernel
theorem ef_0 (m : MethodId) (x0 : Int32) (x1 : Int32) (x2 : Int32) (x3 : Int32) (x4 : Int32) : entryFrame m #[(.int x0), (.int x1), (.int x2), (.int x3), (.int x4)] maxLocals = mkF m 0 #[.val (.int x0), .val (.int x1), .val (.int x2), .val (.int x3), .val (.int x4), .unset, .unset, .unset, .unset, .unset, .unset, .unset, .unset] [] := by first | (simp [entryFrame, mkF, argsToLocals, Value.category, maxLocals]; done) | rfl
def Q0 (Z : State) (mk tk ia ib sel : Int32) (h0 : Heap) (n0 : Nat) (v : Option Value) (h : Heap) (L : List Loc) : Prop := v = some (.int (1 : Int32)) ∧ Fr n0 L
set_option maxRecDepth 65536 in
set_option maxHeartbeats 40000000 in
theorem rm0 (l : Launch) (Z : State) (a0 : Array Value) (hw : ∀ d ∈ tables_1, d.before a0 Z = true) (ws : List Jvm.Cond) (mk tk ia ib sel : Int32) (h0 : Heap) (n0 : Nat) (Z0 : n0 ≤ h0.size) :
    MetFree l x (head1 (Jvm.Cond.code x code maxLocals ret :: ws) room_1) (fun aa_ U => aa_ = #[(.int mk), (.int tk), (.int ia), (.int ib), (.int sel)] ∧ Z.Warmed39 U.vm ∧ U.heap = h0) (fun _ _ _ _ _ => True) (fun _ U o U' => ∃ v L, o = .returned v ∧ Q0 Z mk tk ia ib sel h0 n0 v U'.heap L ∧ FrameEnd U o U' L room_1.cells room_1.slots) := by
  refine own_met (Q := fun v h L => Q0 Z mk tk ia ib sel h0 n0 v h L) (plainFor_of_name pn_0) ?_
  intro p e s m below meth c s₁ hx hby hml hret hlk hown hnm hZ X0 e0
  have N0 := Fr.nil n0
  rw [ef_0 m mk tk ia ib sel]
  show OwnG p e below s _ _ _ (s₁.setTop (mkF m 0 #[.val (.int mk), .val (.int tk), .val (.int ia), .val (.int ib), .val (.int sel), .unset, .unset, .unset, .unset, .unset, .unset, .unset, .unset] []))
  refine own_by (fun t kk_ => XS.iload X0.here hx rfl (hb hby at_0) rfl  kk_) ?_
  show OwnG p e below s _ _ _ (s₁.setTop (mkF m 2 #[.val (.int mk), .val (.int tk), .val (.int ia), .val (.int ib), .val (.int sel), .unset, .unset, .unset, .unset, .unset, .unset, .unset, .unset] [(.int sel)]))
  refine own_by (fun t kk_ => XS.iconst X0.here hx rfl (hb hby at_2) kk_) ?_
  show OwnG p e below s _ _ _ (s₁.setTop (mkF m 3 #[.val (.int mk), .val (.int tk), .val (.int ia), .val (.int ib), .val (.int sel), .unset, .unset, .unset, .unset, .unset, .unset, .unset, .unset] [(.int (1 : Int32)), (.int sel)]))
  refine own_by (fun t kk_ => XS.iand X0.here hx rfl (hb hby at_3) rfl kk_) ?_
  show OwnG p e below s _ _ _ (s₁.setTop (mkF m 4 #[.val (.int mk), .val (.int tk), .val (.int ia), .val (.int ib), .val (.int sel), .unset, .unset, .unset, .unset, .unset, .unset, .unset, .unset] [(.int (sel &&& (1 : Int32)))]))
  by_cases hb4_1 : (sel &&& (1 : Int32)) = (0 : Int32)
  · refine own_by (fun t kk_ => XS.ifYes X0.here hx rfl (pc0 := 4) (pc' := 11) rfl (hb hby at_4) rfl ((if0 _ _).trans (teq hb4_1).1) (by decide) (by decide) kk_) ?_
    show OwnG p e below s _ _ _ (s₁.setTop (mkF m 11 #[.val (.int mk), .val (.int tk), .val (.int ia), .val (.int ib), .val (.int sel), .unset, .unset, .unset, .unset, .unset, .unset, .unset, .unset] []))
    refine own_by (fun t kk_ => XS.iloadN X0.here hx rfl (hb hby at_11) rfl  kk_) ?_
    show OwnG p e below s _ _ _ (s₁.setTop (mkF m 12 #[.val (.int mk), .val (.int tk), .val (.int ia), .val (.int ib), .val (.int sel), .unset, .unset, .unset, .unset, .unset, .unset, .unset, .unset] [(.int tk)]))
    refine own_by (fun t kk_ => XS.istore X0.here hx rfl (hb hby at_12) rfl (l' := #[.val (.int mk), .val (.int tk), .val (.int ia), .val (.int ib), .val (.int sel), .val (.int tk), .unset, .unset, .unset, .unset, .unset, .unset, .unset]) rfl kk_) ?_
    show OwnG p e below s _ _ _ (s₁.setTop (mkF m 14 #[.val (.int mk), .val (.int tk), .val (.int ia), .val (.int ib), .val (.int sel), .val (.int tk), .unset, .unset, .unset, .unset, .unset, .unset, .unset] []))
    refine own_by (fun t kk_ => XS.iload X0.here hx rfl (hb hby at_14) rfl  kk_) ?_
    show OwnG p e below s _ _ _ (s₁.setTop (mkF m 16 #[.val (.int mk), .val (.int tk), .val (.int ia), .val (.int ib), .val (.int sel), .val (.int tk), .unset, .unset, .unset, .unset, .unset, .unset, .unset] [(.int sel)]))
    refine own_by (fun t kk_ => XS.iconst X0.here hx rfl (hb hby at_16) kk_) ?_
    show OwnG p e below s _ _ _ (s₁.setTop (mkF m 17 #[.val (.int mk), .val (.int tk), .val (.int ia), .val (.int ib), .val (.int sel), .val (.int tk), .unset, .unset, .unset, .unset, .unset, .unset, .unset] [(.int (2 : Int32)), (.int sel)]))
    refine own_by (fun t kk_ => XS.iand X0.here hx rfl (hb hby at_17) rfl kk_) ?_
    show OwnG p e below s _ _ _ (s₁.setTop (mkF m 18 #[.val (.int mk), .val (.int tk), .val (.int ia), .val (.int ib), .val (.int sel), .val (.int tk), .unset, .unset, .unset, .unset, .unset, .unset, .unset] [(.int (sel &&& (2 : Int32)))]))
    by_cases hb18_2 : (sel &&& (2 : Int32)) = (0 : Int32)
    · refine own_by (fun t kk_ => XS.ifYes X0.here hx rfl (pc0 := 18) (pc' := 25) rfl (hb hby at_18) rfl ((if0 _ _).trans (teq hb18_2).1) (by decide) (by decide) kk_) ?_
      show OwnG p e below s _ _ _ (s₁.setTop (mkF m 25 #[.val (.int mk), .val (.int tk), .val (.int ia), .val (.int ib), .val (.int sel), .val (.int tk), .unset, .unset, .unset, .unset, .unset, .unset, .unset] []))
      refine own_by (fun t kk_ => XS.iloadN X0.here hx rfl (hb hby at_25) rfl  kk_) ?_
      show OwnG p e below s _ _ _ (s₁.setTop (mkF m 26 #[.val (.int mk), .val (.int tk), .val (.int ia), .val (.int ib), .val (.int sel), .val (.int tk), .unset, .unset, .unset, .unset, .unset, .unset, .unset] [(.int ib)]))
      refine own_by (fun t kk_ => XS.istore X0.here hx rfl (hb hby at_26) rfl (l' := #[.val (.int mk), .val (.int tk), .val (.int ia), .val (.int ib), .val (.int sel), .val (.int tk), .val (.int ib), .unset, .unset, .unset, .unset, .unset, .unset]) rfl kk_) ?_
      show OwnG p e below s _ _ _ (s₁.setTop (mkF m 28 #[.val (.int mk), .val (.int tk), .val (.int ia), .val (.int ib), .val (.int sel), .val (.int tk), .val (.int ib), .unset, .unset, .unset, .unset, .unset, .unset] []))
      refine own_by (fun t kk_ => XS.iloadN X0.here hx rfl (hb hby at_28) rfl  kk_) ?_
      show OwnG p e below s _ _ _ (s₁.setTop (mkF m 29 #[.val (.int mk), .val (.int tk), .val (.int ia), .val (.int ib), .val (.int sel), .val (.int tk), .val (.int ib), .unset, .unset, .unset, .unset, .unset, .unset] [(.int mk)]))
      refine own_by (fun t kk_ => XS.iloadN X0.here hx rfl (hb hby at_29) rfl  kk_) ?_
      show OwnG p e below s _ _ _ (s₁.setTop (mkF m 30 #[.val (.int mk), .val (.int tk), .val (.int ia), .val (.int ib), .val (.int sel), .val (.int tk), .val (.int ib), .unset, .unset, .unset, .unset, .unset, .unset] [(.int ia), (.int mk)]))
      obtain ⟨_, _, ⟨T3, L3, k3, n3⟩, -, X3, ⟨Lc3, hQ3, l3, y3, z3⟩, st3⟩ := Jvm.LawKit.callS X0 hx (y := (⟨"com/example/score_on_crawl/scoreoncrawl/engine/PageTreeBeforePinLaw", "rank", "(II)J"⟩ : MethodName)) hown (mvT hZ (hw _ (List.mem_of_getElem? (i := 0) rfl))) (mvT hZ (hw _ (List.mem_of_getElem? (i := 1) rfl))) (mvT hZ (hw _ (List.mem_of_getElem? (i := 2) rfl))) (mvT hZ (hw _ (List.mem_of_getElem? (i := 3) rfl))) (by decide) (backOf (W := 0) (rm1 l Z a0 hw [] mk ia h0 n0 Z0) hZ (hw _ (List.mem_of_getElem? (i := 3) rfl)) (hw _ (List.mem_of_getElem? (i := 2) rfl)) (by decide) (by decide)) (g := (mkF m 30 #[.val (.int mk), .val (.int tk), .val (.int ia), .val (.int ib), .val (.int sel), .val (.int tk), .val (.int ib), .unset, .unset, .unset, .unset, .unset, .unset] [(.int ia), (.int mk)])) rfl (by rw [hml]; rfl) (argsL := [(.int mk), (.int ia)]) (rest := []) (lenOf pd_0 rfl) rfl (by show 2 * 0 + _ ≤ _; exact Nat.le_of_eq rfl) (hb hby at_30) (fun _ _ => ⟨rfl, e0, (by decide : 0 + 0 ≤ _), (by decide : 0 + 0 ≤ _)⟩)
      dsimp only [Pt.U, Pt.locs, Pt.cells, Pt.slots] at X3 l3 y3 z3 st3 hQ3
      subst l3 y3 z3
      refine own_by (fun t kk_ => st3 _ kk_) ?_
      obtain ⟨rfl, N3q, hh3⟩ := hQ3
      have N3 := Fr.app N0 N3q
      have sz3 : n0 ≤ T3.heap.size := by rw [hh3]; exact Z0
      show OwnG p e below s _ _ _ (T3.setTop (mkF m 33 #[.val (.int mk), .val (.int tk), .val (.int ia), .val (.int ib), .val (.int sel), .val (.int tk), .val (.int ib), .unset, .unset, .unset, .unset, .unset, .unset] [(.long (own_rk mk ia))]))
      refine own_by (fun t kk_ => XS.lstore X3.here hx rfl (hb hby at_33) rfl (l' := #[.val (.int mk), .val (.int tk), .val (.int ia), .val (.int ib), .val (.int sel), .val (.int tk), .val (.int ib), .val (.long (own_rk mk ia)), .second, .unset, .unset, .unset, .unset]) rfl kk_) ?_
      show OwnG p e below s _ _ _ (T3.setTop (mkF m 35 #[.val (.int mk), .val (.int tk), .val (.int ia), .val (.int ib), .val (.int sel), .val (.int tk), .val (.int ib), .val (.long (own_rk mk ia)), .second, .unset, .unset, .unset, .unset] []))
      refine own_by (fun t kk_ => XS.iload X3.here hx rfl (hb hby at_35) rfl  kk_) ?_
      show OwnG p e below s _ _ _ (T3.setTop (mkF m 37 #[.val (.int mk), .val (.int tk), .val (.int ia), .val (.int ib), .val (.int sel), .val (.int tk), .val (.int ib), .val (.long (own_rk mk ia)), .second, .unset, .unset, .unset, .unset] [(.int tk)]))
      refine own_by (fun t kk_ => XS.iload X3.here hx rfl (hb hby at_37) rfl  kk_) ?_
      show OwnG p e below s _ _ _ (T3.setTop (mkF m 39 #[.val (.int mk), .val (.int tk), .val (.int ia), .val (.int ib), .val (.int sel), .val (.int tk), .val (.int ib), .val (.long (own_rk mk ia)), .second, .unset, .unset, .unset, .unset] [(.int ib), (.int tk)]))
      obtain ⟨_, _, ⟨T4, L4, k4, n4⟩, -, X4, ⟨Lc4, hQ4, l4, y4, z4⟩, st4⟩ := Jvm.LawKit.callS X3 hx (y := (⟨"com/example/score_on_crawl/scoreoncrawl/engine/PageTreeBeforePinLaw", "rank", "(II)J"⟩ : MethodName)) hown (mvT hZ (hw _ (List.mem_of_getElem? (i := 0) rfl))) (mvT hZ (hw _ (List.mem_of_getElem? (i := 1) rfl))) (mvT hZ (hw _ (List.mem_of_getElem? (i := 2) rfl))) (mvT hZ (hw _ (List.mem_of_getElem? (i := 3) rfl))) (by decide) (backOf (W := 0) (rm1 l Z a0 hw [] tk ib T3.heap n0 sz3) hZ (hw _ (List.mem_of_getElem? (i := 3) rfl)) (hw _ (List.mem_of_getElem? (i := 2) rfl)) (by decide) (by decide)) (g := (mkF m 39 #[.val (.int mk), .val (.int tk), .val (.int ia), .val (.int ib), .val (.int sel), .val (.int tk), .val (.int ib), .val (.long (own_rk mk ia)), .second, .unset, .unset, .unset, .unset] [(.int ib), (.int tk)])) rfl (by rw [hml]; rfl) (argsL := [(.int tk), (.int ib)]) (rest := []) (lenOf pd_0 rfl) rfl (by show 2 * 0 + _ ≤ _; exact Nat.le_of_eq rfl) (hb hby at_39) (fun _ _ => ⟨rfl, (rfl : T3.heap = T3.heap), (by decide : 0 + 0 ≤ _), (by decide : 0 + 0 ≤ _)⟩)
      dsimp only [Pt.U, Pt.locs, Pt.cells, Pt.slots] at X4 l4 y4 z4 st4 hQ4
      subst l4 y4 z4
      refine own_by (fun t kk_ => st4 _ kk_) ?_
      obtain ⟨rfl, N4q, hh4⟩ := hQ4
      have N4 := Fr.app N3 N4q
      have sz4 : n0 ≤ T4.heap.size := by rw [hh4]; exact sz3
      show OwnG p e below s _ _ _ (T4.setTop (mkF m 42 #[.val (.int mk), .val (.int tk), .val (.int ia), .val (.int ib), .val (.int sel), .val (.int tk), .val (.int ib), .val (.long (own_rk mk ia)), .second, .unset, .unset, .unset, .unset] [(.long (own_rk tk ib))]))
      refine own_by (fun t kk_ => XS.lstore X4.here hx rfl (hb hby at_42) rfl (l' := #[.val (.int mk), .val (.int tk), .val (.int ia), .val (.int ib), .val (.int sel), .val (.int tk), .val (.int ib), .val (.long (own_rk mk ia)), .second, .val (.long (own_rk tk ib)), .second, .unset, .unset]) rfl kk_) ?_
      show OwnG p e below s _ _ _ (T4.setTop (mkF m 44 #[.val (.int mk), .val (.int tk), .val (.int ia), .val (.int ib), .val (.int sel), .val (.int tk), .val (.int ib), .val (.long (own_rk mk ia)), .second, .val (.long (own_rk tk ib)), .second, .unset, .unset] []))
      refine own_by (fun t kk_ => XS.iloadN X4.here hx rfl (hb hby at_44) rfl  kk_) ?_
      show OwnG p e below s _ _ _ (T4.setTop (mkF m 45 #[.val (.int mk), .val (.int tk), .val (.int ia), .val (.int ib), .val (.int sel), .val (.int tk), .val (.int ib), .val (.long (own_rk mk ia)), .second, .val (.long (own_rk tk ib)), .second, .unset, .unset] [(.int mk)]))
      refine own_by (fun t kk_ => XS.i2dS X4.here hx rfl (hb hby at_45) rfl rfl kk_) ?_
      show OwnG p e below s _ _ _ (T4.setTop (mkF m 46 #[.val (.int mk), .val (.int tk), .val (.int ia), .val (.int ib), .val (.int sel), .val (.int tk), .val (.int ib), .val (.long (own_rk mk ia)), .second, .val (.long (own_rk tk ib)), .second, .unset, .unset] [(.double (FP.i2d mk))]))
      refine own_by (fun t kk_ => XS.iloadN X4.here hx rfl (hb hby at_46) rfl  kk_) ?_
      show OwnG p e below s _ _ _ (T4.setTop (mkF m 47 #[.val (.int mk), .val (.int tk), .val (.int ia), .val (.int ib), .val (.int sel), .val (.int tk), .val (.int ib), .val (.long (own_rk mk ia)), .second, .val (.long (own_rk tk ib)), .second, .unset, .unset] [(.int ia), (.double (FP.i2d mk))]))
      refine own_by (fun t kk_ => XS.iload X4.here hx rfl (hb hby at_47) rfl  kk_) ?_
      show OwnG p e below s _ _ _ (T4.setTop (mkF m 49 #[.val (.int mk), .val (.int tk), .val (.int ia), .val (.int ib), .val (.int sel), .val (.int tk), .val (.int ib), .val (.long (own_rk mk ia)), .second, .val (.long (own_rk tk ib)), .second, .unset, .unset] [(.int tk), (.int ia), (.double (FP.i2d mk))]))
      refine own_by (fun t kk_ => XS.i2dS X4.here hx rfl (hb hby at_49) rfl rfl kk_) ?_
      show OwnG p e below s _ _ _ (T4.setTop (mkF m 50 #[.val (.int mk), .val (.int tk), .val (.int ia), .val (.int ib), .val (.int sel), .val (.int tk), .val (.int ib), .val (.long (own_rk mk ia)), .second, .val (.long (own_rk tk ib)), .second, .unset, .unset] [(.double (FP.i2d tk)), (.int ia), (.double (FP.i2d mk))]))
      refine own_by (fun t kk_ => XS.iload X4.here hx rfl (hb hby at_50) rfl  kk_) ?_
      show OwnG p e below s _ _ _ (T4.setTop (mkF m 52 #[.val (.int mk), .val (.int tk), .val (.int ia), .val (.int ib), .val (.int sel), .val (.int tk), .val (.int ib), .val (.long (own_rk mk ia)), .second, .val (.long (own_rk tk ib)), .second, .unset, .unset] [(.int ib), (.double (FP.i2d tk)), (.int ia), (.double (FP.i2d mk))]))
      obtain ⟨_, _, ⟨T5, L5, k5, n5⟩, -, X5, ⟨Lc5, hQ5, l5, y5, z5⟩, st5⟩ := Jvm.LawKit.callS X4 hx (y := (⟨"com/example/score_on_crawl/scoreoncrawl/engine/PageTree", "before", "(DIDI)Z"⟩ : MethodName)) hown (mvT hZ (hw _ (List.mem_of_getElem? (i := 5) rfl))) (mvT hZ (hw _ (List.mem_of_getElem? (i := 6) rfl))) (mvT hZ (hw _ (List.mem_of_getElem? (i := 7) rfl))) (mvT hZ (hw _ (List.mem_of_getElem? (i := 8) rfl))) (by decide) (backOf (W := 0) (rm2 l Z a0 hw [] mk ia tk ib T4.heap n0 sz4) hZ (hw _ (List.mem_of_getElem? (i := 8) rfl)) (hw _ (List.mem_of_getElem? (i := 7) rfl)) (by decide) (by decide)) (g := (mkF m 52 #[.val (.int mk), .val (.int tk), .val (.int ia), .val (.int ib), .val (.int sel), .val (.int tk), .val (.int ib), .val (.long (own_rk mk ia)), .second, .val (.long (own_rk tk ib)), .second, .unset, .unset] [(.int ib), (.double (FP.i2d tk)), (.int ia), (.double (FP.i2d mk))])) rfl (by rw [hml]; rfl) (argsL := [(.double (FP.i2d mk)), (.int ia), (.double (FP.i2d tk)), (.int ib)]) (rest := []) (lenOf pd_1 rfl) rfl (by show 2 * 0 + _ ≤ _; exact Nat.le_of_eq rfl) (hb hby at_52) (fun _ _ => ⟨rfl, (rfl : T4.heap = T4.heap), (by decide : 0 + 0 ≤ _), (by decide : 0 + 0 ≤ _)⟩)
      dsimp only [Pt.U, Pt.locs, Pt.cells, Pt.slots] at X5 l5 y5 z5 st5 hQ5
      subst l5 y5 z5
      refine own_by (fun t kk_ => st5 _ kk_) ?_
      obtain ⟨rfl, N5q, hh5⟩ := hQ5
      have N5 := Fr.app N4 N5q
      have sz5 : n0 ≤ T5.heap.size := by rw [hh5]; exact sz4
      show OwnG p e below s _ _ _ (T5.setTop (mkF m 55 #[.val (.int mk), .val (.int tk), .val (.int ia), .val (.int ib), .val (.int sel), .val (.int tk), .val (.int ib), .val (.long (own_rk mk ia)), .second, .val (.long (own_rk tk ib)), .second, .unset, .unset] [(.int (own_bf mk ia tk ib))]))
      refine own_by (fun t kk_ => XS.istore X5.here hx rfl (hb hby at_55) rfl (l' := #[.val (.int mk), .val (.int tk), .val (.int ia), .val (.int ib), .val (.int sel), .val (.int tk), .val (.int ib), .val (.long (own_rk mk ia)), .second, .val (.long (own_rk tk ib)), .second, .val (.int (own_bf mk ia tk ib)), .unset]) rfl kk_) ?_
      show OwnG p e below s _ _ _ (T5.setTop (mkF m 57 #[.val (.int mk), .val (.int tk), .val (.int ia), .val (.int ib), .val (.int sel), .val (.int tk), .val (.int ib), .val (.long (own_rk mk ia)), .second, .val (.long (own_rk tk ib)), .second, .val (.int (own_bf mk ia tk ib)), .unset] []))
      refine own_by (fun t kk_ => XS.iload X5.here hx rfl (hb hby at_57) rfl  kk_) ?_
      show OwnG p e below s _ _ _ (T5.setTop (mkF m 59 #[.val (.int mk), .val (.int tk), .val (.int ia), .val (.int ib), .val (.int sel), .val (.int tk), .val (.int ib), .val (.long (own_rk mk ia)), .second, .val (.long (own_rk tk ib)), .second, .val (.int (own_bf mk ia tk ib)), .unset] [(.int tk)]))
      refine own_by (fun t kk_ => XS.i2dS X5.here hx rfl (hb hby at_59) rfl rfl kk_) ?_
      show OwnG p e below s _ _ _ (T5.setTop (mkF m 60 #[.val (.int mk), .val (.int tk), .val (.int ia), .val (.int ib), .val (.int sel), .val (.int tk), .val (.int ib), .val (.long (own_rk mk ia)), .second, .val (.long (own_rk tk ib)), .second, .val (.int (own_bf mk ia tk ib)), .unset] [(.double (FP.i2d tk))]))
      refine own_by (fun t kk_ => XS.iload X5.here hx rfl (hb hby at_60) rfl  kk_) ?_
      show OwnG p e below s _ _ _ (T5.setTop (mkF m 62 #[.val (.int mk), .val (.int tk), .val (.int ia), .val (.int ib), .val (.int sel), .val (.int tk), .val (.int ib), .val (.long (own_rk mk ia)), .second, .val (.long (own_rk tk ib)), .second, .val (.int (own_bf mk ia tk ib)), .unset] [(.int ib), (.double (FP.i2d tk))]))
      refine own_by (fun t kk_ => XS.iloadN X5.here hx rfl (hb hby at_62) rfl  kk_) ?_
      show OwnG p e below s _ _ _ (T5.setTop (mkF m 63 #[.val (.int mk), .val (.int tk), .val (.int ia), .val (.int ib), .val (.int sel), .val (.int tk), .val (.int ib), .val (.long (own_rk mk ia)), .second, .val (.long (own_rk tk ib)), .second, .val (.int (own_bf mk ia tk ib)), .unset] [(.int mk), (.int ib), (.double (FP.i2d tk))]))
      refine own_by (fun t kk_ => XS.i2dS X5.here hx rfl (hb hby at_63) rfl rfl kk_) ?_
      show OwnG p e below s _ _ _ (T5.setTop (mkF m 64 #[.val (.int mk), .val (.int tk), .val (.int ia), .val (.int ib), .val (.int sel), .val (.int tk), .val (.int ib), .val (.long (own_rk mk ia)), .second, .val (.long (own_rk tk ib)), .second, .val (.int (own_bf mk ia tk ib)), .unset] [(.double (FP.i2d mk)), (.int ib), (.double (FP.i2d tk))]))
      refine own_by (fun t kk_ => XS.iloadN X5.here hx rfl (hb hby at_64) rfl  kk_) ?_
      show OwnG p e below s _ _ _ (T5.setTop (mkF m 65 #[.val (.int mk), .val (.int tk), .val (.int ia), .val (.int ib), .val (.int sel), .val (.int tk), .val (.int ib), .val (.long (own_rk mk ia)), .second, .val (.long (own_rk tk ib)), .second, .val (.int (own_bf mk ia tk ib)), .unset] [(.int ia), (.double (FP.i2d mk)), (.int ib), (.double (FP.i2d tk))]))
      obtain ⟨_, _, ⟨T6, L6, k6, n6⟩, -, X6, ⟨Lc6, hQ6, l6, y6, z6⟩, st6⟩ := Jvm.LawKit.callS X5 hx (y := (⟨"com/example/score_on_crawl/scoreoncrawl/engine/PageTree", "before", "(DIDI)Z"⟩ : MethodName)) hown (mvT hZ (hw _ (List.mem_of_getElem? (i := 5) rfl))) (mvT hZ (hw _ (List.mem_of_getElem? (i := 6) rfl))) (mvT hZ (hw _ (List.mem_of_getElem? (i := 7) rfl))) (mvT hZ (hw _ (List.mem_of_getElem? (i := 8) rfl))) (by decide) (backOf (W := 0) (rm2 l Z a0 hw [] tk ib mk ia T5.heap n0 sz5) hZ (hw _ (List.mem_of_getElem? (i := 8) rfl)) (hw _ (List.mem_of_getElem? (i := 7) rfl)) (by decide) (by decide)) (g := (mkF m 65 #[.val (.int mk), .val (.int tk), .val (.int ia), .val (.int ib), .val (.int sel), .val (.int tk), .val (.int ib), .val (.long (own_rk mk ia)), .second, .val (.long (own_rk tk ib)), .second, .val (.int (own_bf mk ia tk ib)), .unset] [(.int ia), (.double (FP.i2d mk)), (.int ib), (.double (FP.i2d tk))])) rfl (by rw [hml]; rfl) (argsL := [(.double (FP.i2d tk)), (.int ib), (.double (FP.i2d mk)), (.int ia)]) (rest := []) (lenOf pd_1 rfl) rfl (by show 2 * 0 + _ ≤ _; exact Nat.le_of_eq rfl) (hb hby at_65) (fun _ _ => ⟨rfl, (rfl : T5.heap = T5.heap), (by decide : 0 + 0 ≤ _), (by decide : 0 + 0 ≤ _)⟩)
      dsimp only [Pt.U, Pt.locs, Pt.cells, Pt.slots] at X6 l6 y6 z6 st6 hQ6
      subst l6 y6 z6
      refine own_by (fun t kk_ => st6 _ kk_) ?_
      obtain ⟨rfl, N6q, hh6⟩ := hQ6
      have N6 := Fr.app N5 N6q
      have sz6 : n0 ≤ T6.heap.size := by rw [hh6]; exact sz5
      show OwnG p e below s _ _ _ (T6.setTop (mkF m 68 #[.val (.int mk), .val (.int tk), .val (.int ia), .val (.int ib), .val (.int sel), .val (.int tk), .val (.int ib), .val (.long (own_rk mk ia)), .second, .val (.long (own_rk tk ib)), .second, .val (.int (own_bf mk ia tk ib)), .unset] [(.int (own_bf tk ib mk ia))]))
      refine own_by (fun t kk_ => XS.istore X6.here hx rfl (hb hby at_68) rfl (l' := #[.val (.int mk), .val (.int tk), .val (.int ia), .val (.int ib), .val (.int sel), .val (.int tk), .val (.int ib), .val (.long (own_rk mk ia)), .second, .val (.long (own_rk tk ib)), .second, .val (.int (own_bf mk ia tk ib)), .val (.int (own_bf tk ib mk ia))]) rfl kk_) ?_
      show OwnG p e below s _ _ _ (T6.setTop (mkF m 70 #[.val (.int mk), .val (.int tk), .val (.int ia), .val (.int ib), .val (.int sel), .val (.int tk), .val (.int ib), .val (.long (own_rk mk ia)), .second, .val (.long (own_rk tk ib)), .second, .val (.int (own_bf mk ia tk ib)), .val (.int (own_bf tk ib mk ia))] []))
      refine own_by (fun t kk_ => XS.iload X6.here hx rfl (hb hby at_70) rfl  kk_) ?_
      show OwnG p e below s _ _ _ (T6.setTop (mkF m 72 #[.val (.int mk), .val (.int tk), .val (.int ia), .val (.int ib), .val (.int sel), .val (.int tk), .val (.int ib), .val (.long (own_rk mk ia)), .second, .val (.long (own_rk tk ib)), .second, .val (.int (own_bf mk ia tk ib)), .val (.int (own_bf tk ib mk ia))] [(.int (own_bf mk ia tk ib))]))
      refine own_by (fun t kk_ => XS.lload X6.here hx rfl (hb hby at_72) rfl  kk_) ?_
      show OwnG p e below s _ _ _ (T6.setTop (mkF m 74 #[.val (.int mk), .val (.int tk), .val (.int ia), .val (.int ib), .val (.int sel), .val (.int tk), .val (.int ib), .val (.long (own_rk mk ia)), .second, .val (.long (own_rk tk ib)), .second, .val (.int (own_bf mk ia tk ib)), .val (.int (own_bf tk ib mk ia))] [(.long (own_rk mk ia)), (.int (own_bf mk ia tk ib))]))
      refine own_by (fun t kk_ => XS.lload X6.here hx rfl (hb hby at_74) rfl  kk_) ?_
      show OwnG p e below s _ _ _ (T6.setTop (mkF m 76 #[.val (.int mk), .val (.int tk), .val (.int ia), .val (.int ib), .val (.int sel), .val (.int tk), .val (.int ib), .val (.long (own_rk mk ia)), .second, .val (.long (own_rk tk ib)), .second, .val (.int (own_bf mk ia tk ib)), .val (.int (own_bf tk ib mk ia))] [(.long (own_rk tk ib)), (.long (own_rk mk ia)), (.int (own_bf mk ia tk ib))]))
      refine own_by (fun t kk_ => XS.lcmp X6.here hx rfl (hb hby at_76) rfl kk_) ?_
      show OwnG p e below s _ _ _ (T6.setTop (mkF m 77 #[.val (.int mk), .val (.int tk), .val (.int ia), .val (.int ib), .val (.int sel), .val (.int tk), .val (.int ib), .val (.long (own_rk mk ia)), .second, .val (.long (own_rk tk ib)), .second, .val (.int (own_bf mk ia tk ib)), .val (.int (own_bf tk ib mk ia))] [(.int (lcmpW (own_rk mk ia) (own_rk tk ib))), (.int (own_bf mk ia tk ib))]))
      by_cases hb77_7 : (own_rk tk ib) < (own_rk mk ia)
      · refine own_by (fun t kk_ => XS.ifNo X6.here hx rfl (hb hby at_77) rfl ((if0 _ _).trans (tlt ((lw_gt _ _).mpr hb77_7)).2.2.2) kk_) ?_
        show OwnG p e below s _ _ _ (T6.setTop (mkF m 80 #[.val (.int mk), .val (.int tk), .val (.int ia), .val (.int ib), .val (.int sel), .val (.int tk), .val (.int ib), .val (.long (own_rk mk ia)), .second, .val (.long (own_rk tk ib)), .second, .val (.int (own_bf mk ia tk ib)), .val (.int (own_bf tk ib mk ia))] [(.int (own_bf mk ia tk ib))]))
        refine own_by (fun t kk_ => XS.iconst X6.here hx rfl (hb hby at_80) kk_) ?_
        show OwnG p e below s _ _ _ (T6.setTop (mkF m 81 #[.val (.int mk), .val (.int tk), .val (.int ia), .val (.int ib), .val (.int sel), .val (.int tk), .val (.int ib), .val (.long (own_rk mk ia)), .second, .val (.long (own_rk tk ib)), .second, .val (.int (own_bf mk ia tk ib)), .val (.int (own_bf tk ib mk ia))] [(.int (1 : Int32)), (.int (own_bf mk ia tk ib))]))
        refine own_by (fun t kk_ => XS.goto X6.here hx rfl (pc0 := 81) (pc' := 85) rfl (hb hby at_81) (by decide) (by decide) kk_) ?_
        show OwnG p e below s _ _ _ (T6.setTop (mkF m 85 #[.val (.int mk), .val (.int tk), .val (.int ia), .val (.int ib), .val (.int sel), .val (.int tk), .val (.int ib), .val (.long (own_rk mk ia)), .second, .val (.long (own_rk tk ib)), .second, .val (.int (own_bf mk ia tk ib)), .val (.int (own_bf tk ib mk ia))] [(.int (1 : Int32)), (.int (own_bf mk ia tk ib))]))
        refine own_by (fun t kk_ => XS.icmpNo X6.here hx rfl (hb hby at_85) rfl (teq (own_T hb77_7)).2 kk_) ?_
        show OwnG p e below s _ _ _ (T6.setTop (mkF m 88 #[.val (.int mk), .val (.int tk), .val (.int ia), .val (.int ib), .val (.int sel), .val (.int tk), .val (.int ib), .val (.long (own_rk mk ia)), .second, .val (.long (own_rk tk ib)), .second, .val (.int (own_bf mk ia tk ib)), .val (.int (own_bf tk ib mk ia))] []))
        refine own_by (fun t kk_ => XS.iload X6.here hx rfl (hb hby at_88) rfl  kk_) ?_
        show OwnG p e below s _ _ _ (T6.setTop (mkF m 90 #[.val (.int mk), .val (.int tk), .val (.int ia), .val (.int ib), .val (.int sel), .val (.int tk), .val (.int ib), .val (.long (own_rk mk ia)), .second, .val (.long (own_rk tk ib)), .second, .val (.int (own_bf mk ia tk ib)), .val (.int (own_bf tk ib mk ia))] [(.int (own_bf tk ib mk ia))]))
        refine own_by (fun t kk_ => XS.lload X6.here hx rfl (hb hby at_90) rfl  kk_) ?_
        show OwnG p e below s _ _ _ (T6.setTop (mkF m 92 #[.val (.int mk), .val (.int tk), .val (.int ia), .val (.int ib), .val (.int sel), .val (.int tk), .val (.int ib), .val (.long (own_rk mk ia)), .second, .val (.long (own_rk tk ib)), .second, .val (.int (own_bf mk ia tk ib)), .val (.int (own_bf tk ib mk ia))] [(.long (own_rk tk ib)), (.int (own_bf tk ib mk ia))]))
        refine own_by (fun t kk_ => XS.lload X6.here hx rfl (hb hby at_92) rfl  kk_) ?_
        show OwnG p e below s _ _ _ (T6.setTop (mkF m 94 #[.val (.int mk), .val (.int tk), .val (.int ia), .val (.int ib), .val (.int sel), .val (.int tk), .val (.int ib), .val (.long (own_rk mk ia)), .second, .val (.long (own_rk tk ib)), .second, .val (.int (own_bf mk ia tk ib)), .val (.int (own_bf tk ib mk ia))] [(.long (own_rk mk ia)), (.long (own_rk tk ib)), (.int (own_bf tk ib mk ia))]))
        refine own_by (fun t kk_ => XS.lcmp X6.here hx rfl (hb hby at_94) rfl kk_) ?_
        show OwnG p e below s _ _ _ (T6.setTop (mkF m 95 #[.val (.int mk), .val (.int tk), .val (.int ia), .val (.int ib), .val (.int sel), .val (.int tk), .val (.int ib), .val (.long (own_rk mk ia)), .second, .val (.long (own_rk tk ib)), .second, .val (.int (own_bf mk ia tk ib)), .val (.int (own_bf tk ib mk ia))] [(.int (lcmpW (own_rk tk ib) (own_rk mk ia))), (.int (own_bf tk ib mk ia))]))
        by_cases hb95_8 : (own_rk mk ia) < (own_rk tk ib)
        · refine own_by (fun t kk_ => XS.ifNo X6.here hx rfl (hb hby at_95) rfl ((if0 _ _).trans (tlt ((lw_gt _ _).mpr hb95_8)).2.2.2) kk_) ?_
          show OwnG p e below s _ _ _ (T6.setTop (mkF m 98 #[.val (.int mk), .val (.int tk), .val (.int ia), .val (.int ib), .val (.int sel), .val (.int tk), .val (.int ib), .val (.long (own_rk mk ia)), .second, .val (.long (own_rk tk ib)), .second, .val (.int (own_bf mk ia tk ib)), .val (.int (own_bf tk ib mk ia))] [(.int (own_bf tk ib mk ia))]))
          refine own_by (fun t kk_ => XS.iconst X6.here hx rfl (hb hby at_98) kk_) ?_
          show OwnG p e below s _ _ _ (T6.setTop (mkF m 99 #[.val (.int mk), .val (.int tk), .val (.int ia), .val (.int ib), .val (.int sel), .val (.int tk), .val (.int ib), .val (.long (own_rk mk ia)), .second, .val (.long (own_rk tk ib)), .second, .val (.int (own_bf mk ia tk ib)), .val (.int (own_bf tk ib mk ia))] [(.int (1 : Int32)), (.int (own_bf tk ib mk ia))]))
          refine own_by (fun t kk_ => XS.goto X6.here hx rfl (pc0 := 99) (pc' := 103) rfl (hb hby at_99) (by decide) (by decide) kk_) ?_
          show OwnG p e below s _ _ _ (T6.setTop (mkF m 103 #[.val (.int mk), .val (.int tk), .val (.int ia), .val (.int ib), .val (.int sel), .val (.int tk), .val (.int ib), .val (.long (own_rk mk ia)), .second, .val (.long (own_rk tk ib)), .second, .val (.int (own_bf mk ia tk ib)), .val (.int (own_bf tk ib mk ia))] [(.int (1 : Int32)), (.int (own_bf tk ib mk ia))]))
          refine own_by (fun t kk_ => XS.icmpNo X6.here hx rfl (hb hby at_103) rfl (teq (own_T hb95_8)).2 kk_) ?_
          show OwnG p e below s _ _ _ (T6.setTop (mkF m 106 #[.val (.int mk), .val (.int tk), .val (.int ia), .val (.int ib), .val (.int sel), .val (.int tk), .val (.int ib), .val (.long (own_rk mk ia)), .second, .val (.long (own_rk tk ib)), .second, .val (.int (own_bf mk ia tk ib)), .val (.int (own_bf tk ib mk ia))] []))
          refine own_by (fun t kk_ => XS.iconst X6.here hx rfl (hb hby at_106) kk_) ?_
          show OwnG p e below s _ _ _ (T6.setTop (mkF m 107 #[.val (.int mk), .val (.int tk), .val (.int ia), .val (.int ib), .val (.int sel), .val (.int tk), .val (.int ib), .val (.long (own_rk mk ia)), .second, .val (.long (own_rk tk ib)), .second, .val (.int (own_bf mk ia tk ib)), .val (.int (own_bf tk ib mk ia))] [(.int (1 : Int32))]))
          refine own_by (fun t kk_ => XS.goto X6.here hx rfl (pc0 := 107) (pc' := 111) rfl (hb hby at_107) (by decide) (by decide) kk_) ?_
          show OwnG p e below s _ _ _ (T6.setTop (mkF m 111 #[.val (.int mk), .val (.int tk), .val (.int ia), .val (.int ib), .val (.int sel), .val (.int tk), .val (.int ib), .val (.long (own_rk mk ia)), .second, .val (.long (own_rk tk ib)), .second, .val (.int (own_bf mk ia tk ib)), .val (.int (own_bf tk ib mk ia))] [(.int (1 : Int32))]))
          exact own_outN X6 hx hret (by simp) hlk (hb hby at_111) rfl (⟨rfl, N6⟩) (by decide) (by decide)
        · refine own_by (fun t kk_ => XS.ifYes X6.here hx rfl (pc0 := 95) (pc' := 102) rfl (hb hby at_95) rfl ((if0 _ _).trans (flt (fun q => hb95_8 ((lw_gt _ _).mp q))).2.2.2) (by decide) (by decide) kk_) ?_
          show OwnG p e below s _ _ _ (T6.setTop (mkF m 102 #[.val (.int mk), .val (.int tk), .val (.int ia), .val (.int ib), .val (.int sel), .val (.int tk), .val (.int ib), .val (.long (own_rk mk ia)), .second, .val (.long (own_rk tk ib)), .second, .val (.int (own_bf mk ia tk ib)), .val (.int (own_bf tk ib mk ia))] [(.int (own_bf tk ib mk ia))]))
          refine own_by (fun t kk_ => XS.iconst X6.here hx rfl (hb hby at_102) kk_) ?_
          show OwnG p e below s _ _ _ (T6.setTop (mkF m 103 #[.val (.int mk), .val (.int tk), .val (.int ia), .val (.int ib), .val (.int sel), .val (.int tk), .val (.int ib), .val (.long (own_rk mk ia)), .second, .val (.long (own_rk tk ib)), .second, .val (.int (own_bf mk ia tk ib)), .val (.int (own_bf tk ib mk ia))] [(.int (0 : Int32)), (.int (own_bf tk ib mk ia))]))
          refine own_by (fun t kk_ => XS.icmpNo X6.here hx rfl (hb hby at_103) rfl (teq (own_F hb95_8)).2 kk_) ?_
          show OwnG p e below s _ _ _ (T6.setTop (mkF m 106 #[.val (.int mk), .val (.int tk), .val (.int ia), .val (.int ib), .val (.int sel), .val (.int tk), .val (.int ib), .val (.long (own_rk mk ia)), .second, .val (.long (own_rk tk ib)), .second, .val (.int (own_bf mk ia tk ib)), .val (.int (own_bf tk ib mk ia))] []))
          refine own_by (fun t kk_ => XS.iconst X6.here hx rfl (hb hby at_106) kk_) ?_
          show OwnG p e below s _ _ _ (T6.setTop (mkF m 107 #[.val (.int mk), .val (.int tk), .val (.int ia), .val (.int ib), .val (.int sel), .val (.int tk), .val (.int ib), .val (.long (own_rk mk ia)), .second, .val (.long (own_rk tk ib)), .second, .val (.int (own_bf mk ia tk ib)), .val (.int (own_bf tk ib mk ia))] [(.int (1 : Int32))]))
          refine own_by (fun t kk_ => XS.goto X6.here hx rfl (pc0 := 107) (pc' := 111) rfl (hb hby at_107) (by decide) (by decide) kk_) ?_
          show OwnG p e below s _ _ _ (T6.setTop (mkF m 111 #[.val (.int mk), .val (.int tk), .val (.int ia), .val (.int ib), .val (.int sel), .val (.int tk), .val (.int ib), .val (.long (own_rk mk ia)), .second, .val (.long (own_rk tk ib)), .second, .val (.int (own_bf mk ia tk ib)), .val (.int (own_bf tk ib mk ia))] [(.int (1 : Int32))]))
          exact own_outN X6 hx hret (by simp) hlk (hb hby at_111) rfl (⟨rfl, N6⟩) (by decide) (by decide)
      · refine own_by (fun t kk_ => XS.ifYes X6.here hx rfl (pc0 := 77) (pc' := 84) rfl (hb hby at_77) rfl ((if0 _ _).trans (flt (fun q => hb77_7 ((lw_gt _ _).mp q))).2.2.2) (by decide) (by decide) kk_) ?_
        show OwnG p e below s _ _ _ (T6.setTop (mkF m 84 #[.val (.int mk), .val (.int tk), .val (.int ia), .val (.int ib), .val (.int sel), .val (.int tk), .val (.int ib), .val (.long (own_rk mk ia)), .second, .val (.long (own_rk tk ib)), .second, .val (.int (own_bf mk ia tk ib)), .val (.int (own_bf tk ib mk ia))] [(.int (own_bf mk ia tk ib))]))
        refine own_by (fun t kk_ => XS.iconst X6.here hx rfl (hb hby at_84) kk_) ?_
        show OwnG p e below s _ _ _ (T6.setTop (mkF m 85 #[.val (.int mk), .val (.int tk), .val (.int ia), .val (.int ib), .val (.int sel), .val (.int tk), .val (.int ib), .val (.long (own_rk mk ia)), .second, .val (.long (own_rk tk ib)), .second, .val (.int (own_bf mk ia tk ib)), .val (.int (own_bf tk ib mk ia))] [(.int (0 : Int32)), (.int (own_bf mk ia tk ib))]))
        refine own_by (fun t kk_ => XS.icmpNo X6.here hx rfl (hb hby at_85) rfl (teq (own_F hb77_7)).2 kk_) ?_
        show OwnG p e below s _ _ _ (T6.setTop (mkF m 88 #[.val (.int mk), .val (.int tk), .val (.int ia), .val (.int ib), .val (.int sel), .val (.int tk), .val (.int ib), .val (.long (own_rk mk ia)), .second, .val (.long (own_rk tk ib)), .second, .val (.int (own_bf mk ia tk ib)), .val (.int (own_bf tk ib mk ia))] []))
        refine own_by (fun t kk_ => XS.iload X6.here hx rfl (hb hby at_88) rfl  kk_) ?_
        show OwnG p e below s _ _ _ (T6.setTop (mkF m 90 #[.val (.int mk), .val (.int tk), .val (.int ia), .val (.int ib), .val (.int sel), .val (.int tk), .val (.int ib), .val (.long (own_rk mk ia)), .second, .val (.long (own_rk tk ib)), .second, .val (.int (own_bf mk ia tk ib)), .val (.int (own_bf tk ib mk ia))] [(.int (own_bf tk ib mk ia))]))
        refine own_by (fun t kk_ => XS.lload X6.here hx rfl (hb hby at_90) rfl  kk_) ?_
        show OwnG p e below s _ _ _ (T6.setTop (mkF m 92 #[.val (.int mk), .val (.int tk), .val (.int ia), .val (.int ib), .val (.int sel), .val (.int tk), .val (.int ib), .val (.long (own_rk mk ia)), .second, .val (.long (own_rk tk ib)), .second, .val (.int (own_bf mk ia tk ib)), .val (.int (own_bf tk ib mk ia))] [(.long (own_rk tk ib)), (.int (own_bf tk ib mk ia))]))
        refine own_by (fun t kk_ => XS.lload X6.here hx rfl (hb hby at_92) rfl  kk_) ?_
        show OwnG p e below s _ _ _ (T6.setTop (mkF m 94 #[.val (.int mk), .val (.int tk), .val (.int ia), .val (.int ib), .val (.int sel), .val (.int tk), .val (.int ib), .val (.long (own_rk mk ia)), .second, .val (.long (own_rk tk ib)), .second, .val (.int (own_bf mk ia tk ib)), .val (.int (own_bf tk ib mk ia))] [(.long (own_rk mk ia)), (.long (own_rk tk ib)), (.int (own_bf tk ib mk ia))]))
        refine own_by (fun t kk_ => XS.lcmp X6.here hx rfl (hb hby at_94) rfl kk_) ?_
        show OwnG p e below s _ _ _ (T6.setTop (mkF m 95 #[.val (.int mk), .val (.int tk), .val (.int ia), .val (.int ib), .val (.int sel), .val (.int tk), .val (.int ib), .val (.long (own_rk mk ia)), .second, .val (.long (own_rk tk ib)), .second, .val (.int (own_bf mk ia tk ib)), .val (.int (own_bf tk ib mk ia))] [(.int (lcmpW (own_rk tk ib) (own_rk mk ia))), (.int (own_bf tk ib mk ia))]))
        by_cases hb95_9 : (own_rk mk ia) < (own_rk tk ib)
        · refine own_by (fun t kk_ => XS.ifNo X6.here hx rfl (hb hby at_95) rfl ((if0 _ _).trans (tlt ((lw_gt _ _).mpr hb95_9)).2.2.2) kk_) ?_
          show OwnG p e below s _ _ _ (T6.setTop (mkF m 98 #[.val (.int mk), .val (.int tk), .val (.int ia), .val (.int ib), .val (.int sel), .val (.int tk), .val (.int ib), .val (.long (own_rk mk ia)), .second, .val (.long (own_rk tk ib)), .second, .val (.int (own_bf mk ia tk ib)), .val (.int (own_bf tk ib mk ia))] [(.int (own_bf tk ib mk ia))]))
          refine own_by (fun t kk_ => XS.iconst X6.here hx rfl (hb hby at_98) kk_) ?_
          show OwnG p e below s _ _ _ (T6.setTop (mkF m 99 #[.val (.int mk), .val (.int tk), .val (.int ia), .val (.int ib), .val (.int sel), .val (.int tk), .val (.int ib), .val (.long (own_rk mk ia)), .second, .val (.long (own_rk tk ib)), .second, .val (.int (own_bf mk ia tk ib)), .val (.int (own_bf tk ib mk ia))] [(.int (1 : Int32)), (.int (own_bf tk ib mk ia))]))
          refine own_by (fun t kk_ => XS.goto X6.here hx rfl (pc0 := 99) (pc' := 103) rfl (hb hby at_99) (by decide) (by decide) kk_) ?_
          show OwnG p e below s _ _ _ (T6.setTop (mkF m 103 #[.val (.int mk), .val (.int tk), .val (.int ia), .val (.int ib), .val (.int sel), .val (.int tk), .val (.int ib), .val (.long (own_rk mk ia)), .second, .val (.long (own_rk tk ib)), .second, .val (.int (own_bf mk ia tk ib)), .val (.int (own_bf tk ib mk ia))] [(.int (1 : Int32)), (.int (own_bf tk ib mk ia))]))
          refine own_by (fun t kk_ => XS.icmpNo X6.here hx rfl (hb hby at_103) rfl (teq (own_T hb95_9)).2 kk_) ?_
          show OwnG p e below s _ _ _ (T6.setTop (mkF m 106 #[.val (.int mk), .val (.int tk), .val (.int ia), .val (.int ib), .val (.int sel), .val (.int tk), .val (.int ib), .val (.long (own_rk mk ia)), .second, .val (.long (own_rk tk ib)), .second, .val (.int (own_bf mk ia tk ib)), .val (.int (own_bf tk ib mk ia))] []))
          refine own_by (fun t kk_ => XS.iconst X6.here hx rfl (hb hby at_106) kk_) ?_
          show OwnG p e below s _ _ _ (T6.setTop (mkF m 107 #[.val (.int mk), .val (.int tk), .val (.int ia), .val (.int ib), .val (.int sel), .val (.int tk), .val (.int ib), .val (.long (own_rk mk ia)), .second, .val (.long (own_rk tk ib)), .second, .val (.int (own_bf mk ia tk ib)), .val (.int (own_bf tk ib mk ia))] [(.int (1 : Int32))]))
          refine own_by (fun t kk_ => XS.goto X6.here hx rfl (pc0 := 107) (pc' := 111) rfl (hb hby at_107) (by decide) (by decide) kk_) ?_
          show OwnG p e below s _ _ _ (T6.setTop (mkF m 111 #[.val (.int mk), .val (.int tk), .val (.int ia), .val (.int ib), .val (.int sel), .val (.int tk), .val (.int ib), .val (.long (own_rk mk ia)), .second, .val (.long (own_rk tk ib)), .second, .val (.int (own_bf mk ia tk ib)), .val (.int (own_bf tk ib mk ia))] [(.int (1 : Int32))]))
          exact own_outN X6 hx hret (by simp) hlk (hb hby at_111) rfl (⟨rfl, N6⟩) (by decide) (by decide)
        · refine own_by (fun t kk_ => XS.ifYes X6.here hx rfl (pc0 := 95) (pc' := 102) rfl (hb hby at_95) rfl ((if0 _ _).trans (flt (fun q => hb95_9 ((lw_gt _ _).mp q))).2.2.2) (by decide) (by decide) kk_) ?_
          show OwnG p e below s _ _ _ (T6.setTop (mkF m 102 #[.val (.int mk), .val (.int tk), .val (.int ia), .val (.int ib), .val (.int sel), .val (.int tk), .val (.int ib), .val (.long (own_rk mk ia)), .second, .val (.long (own_rk tk ib)), .second, .val (.int (own_bf mk ia tk ib)), .val (.int (own_bf tk ib mk ia))] [(.int (own_bf tk ib mk ia))]))
          refine own_by (fun t kk_ => XS.iconst X6.here hx rfl (hb hby at_102) kk_) ?_
          show OwnG p e below s _ _ _ (T6.setTop (mkF m 103 #[.val (.int mk), .val (.int tk), .val (.int ia), .val (.int ib), .val (.int sel), .val (.int tk), .val (.int ib), .val (.long (own_rk mk ia)), .second, .val (.long (own_rk tk ib)), .second, .val (.int (own_bf mk ia tk ib)), .val (.int (own_bf tk ib mk ia))] [(.int (0 : Int32)), (.int (own_bf tk ib mk ia))]))
          refine own_by (fun t kk_ => XS.icmpNo X6.here hx rfl (hb hby at_103) rfl (teq (own_F hb95_9)).2 kk_) ?_
          show OwnG p e below s _ _ _ (T6.setTop (mkF m 106 #[.val (.int mk), .val (.int tk), .val (.int ia), .val (.int ib), .val (.int sel), .val (.int tk), .val (.int ib), .val (.long (own_rk mk ia)), .second, .val (.long (own_rk tk ib)), .second, .val (.int (own_bf mk ia tk ib)), .val (.int (own_bf tk ib mk ia))] []))
          refine own_by (fun t kk_ => XS.iconst X6.here hx rfl (hb hby at_106) kk_) ?_
          show OwnG p e below s _ _ _ (T6.setTop (mkF m 107 #[.val (.int mk), .val (.int tk), .val (.int ia), .val (.int ib), .val (.int sel), .val (.int tk), .val (.int ib), .val (.long (own_rk mk ia)), .second, .val (.long (own_rk tk ib)), .second, .val (.int (own_bf mk ia tk ib)), .val (.int (own_bf tk ib mk ia))] [(.int (1 : Int32))]))
          refine own_by (fun t kk_ => XS.goto X6.here hx rfl (pc0 := 107) (pc' := 111) rfl (hb hby at_107) (by decide) (by decide) kk_) ?_
          show OwnG p e below s _ _ _ (T6.setTop (mkF m 111 #[.val (.int mk), .val (.int tk), .val (.int ia), .val (.int ib), .val (.int sel), .val (.int tk), .val (.int ib), .val (.long (own_rk mk ia)), .second, .val (.long (own_rk tk ib)), .second, .val (.int (own_bf mk ia tk ib)), .val (.int (own_bf tk ib mk ia))] [(.int (1 : Int32))]))
          exact own_outN X6 hx hret (by simp) hlk (hb hby at_111) rfl (⟨rfl, N6⟩) (by decide) (by decide)
    · refine own_by (fun t kk_ => XS.ifNo X0.here hx rfl (hb hby at_18) rfl ((if0 _ _).trans (feq hb18_2).1) kk_) ?_
      show OwnG p e below s _ _ _ (s₁.setTop (mkF m 21 #[.val (.int mk), .val (.int tk), .val (.int ia), .val (.int ib), .val (.int sel), .val (.int tk), .unset, .unset, .unset, .unset, .unset, .unset, .unset] []))
      refine own_by (fun t kk_ => XS.iloadN X0.here hx rfl (hb hby at_21) rfl  kk_) ?_
      show OwnG p e below s _ _ _ (s₁.setTop (mkF m 22 #[.val (.int mk), .val (.int tk), .val (.int ia), .val (.int ib), .val (.int sel), .val (.int tk), .unset, .unset, .unset, .unset, .unset, .unset, .unset] [(.int ia)]))
      refine own_by (fun t kk_ => XS.goto X0.here hx rfl (pc0 := 22) (pc' := 26) rfl (hb hby at_22) (by decide) (by decide) kk_) ?_
      show OwnG p e below s _ _ _ (s₁.setTop (mkF m 26 #[.val (.int mk), .val (.int tk), .val (.int ia), .val (.int ib), .val (.int sel), .val (.int tk), .unset, .unset, .unset, .unset, .unset, .unset, .unset] [(.int ia)]))
      refine own_by (fun t kk_ => XS.istore X0.here hx rfl (hb hby at_26) rfl (l' := #[.val (.int mk), .val (.int tk), .val (.int ia), .val (.int ib), .val (.int sel), .val (.int tk), .val (.int ia), .unset, .unset, .unset, .unset, .unset, .unset]) rfl kk_) ?_
      show OwnG p e below s _ _ _ (s₁.setTop (mkF m 28 #[.val (.int mk), .val (.int tk), .val (.int ia), .val (.int ib), .val (.int sel), .val (.int tk), .val (.int ia), .unset, .unset, .unset, .unset, .unset, .unset] []))
      refine own_by (fun t kk_ => XS.iloadN X0.here hx rfl (hb hby at_28) rfl  kk_) ?_
      show OwnG p e below s _ _ _ (s₁.setTop (mkF m 29 #[.val (.int mk), .val (.int tk), .val (.int ia), .val (.int ib), .val (.int sel), .val (.int tk), .val (.int ia), .unset, .unset, .unset, .unset, .unset, .unset] [(.int mk)]))
      refine own_by (fun t kk_ => XS.iloadN X0.here hx rfl (hb hby at_29) rfl  kk_) ?_
      show OwnG p e below s _ _ _ (s₁.setTop (mkF m 30 #[.val (.int mk), .val (.int tk), .val (.int ia), .val (.int ib), .val (.int sel), .val (.int tk), .val (.int ia), .unset, .unset, .unset, .unset, .unset, .unset] [(.int ia), (.int mk)]))
      obtain ⟨_, _, ⟨T10, L10, k10, n10⟩, -, X10, ⟨Lc10, hQ10, l10, y10, z10⟩, st10⟩ := Jvm.LawKit.callS X0 hx (y := (⟨"com/example/score_on_crawl/scoreoncrawl/engine/PageTreeBeforePinLaw", "rank", "(II)J"⟩ : MethodName)) hown (mvT hZ (hw _ (List.mem_of_getElem? (i := 0) rfl))) (mvT hZ (hw _ (List.mem_of_getElem? (i := 1) rfl))) (mvT hZ (hw _ (List.mem_of_getElem? (i := 2) rfl))) (mvT hZ (hw _ (List.mem_of_getElem? (i := 3) rfl))) (by decide) (backOf (W := 0) (rm1 l Z a0 hw [] mk ia h0 n0 Z0) hZ (hw _ (List.mem_of_getElem? (i := 3) rfl)) (hw _ (List.mem_of_getElem? (i := 2) rfl)) (by decide) (by decide)) (g := (mkF m 30 #[.val (.int mk), .val (.int tk), .val (.int ia), .val (.int ib), .val (.int sel), .val (.int tk), .val (.int ia), .unset, .unset, .unset, .unset, .unset, .unset] [(.int ia), (.int mk)])) rfl (by rw [hml]; rfl) (argsL := [(.int mk), (.int ia)]) (rest := []) (lenOf pd_0 rfl) rfl (by show 2 * 0 + _ ≤ _; exact Nat.le_of_eq rfl) (hb hby at_30) (fun _ _ => ⟨rfl, e0, (by decide : 0 + 0 ≤ _), (by decide : 0 + 0 ≤ _)⟩)
      dsimp only [Pt.U, Pt.locs, Pt.cells, Pt.slots] at X10 l10 y10 z10 st10 hQ10
      subst l10 y10 z10
      refine own_by (fun t kk_ => st10 _ kk_) ?_
      obtain ⟨rfl, N10q, hh10⟩ := hQ10
      have N10 := Fr.app N0 N10q
      have sz10 : n0 ≤ T10.heap.size := by rw [hh10]; exact Z0
      show OwnG p e below s _ _ _ (T10.setTop (mkF m 33 #[.val (.int mk), .val (.int tk), .val (.int ia), .val (.int ib), .val (.int sel), .val (.int tk), .val (.int ia), .unset, .unset, .unset, .unset, .unset, .unset] [(.long (own_rk mk ia))]))
      refine own_by (fun t kk_ => XS.lstore X10.here hx rfl (hb hby at_33) rfl (l' := #[.val (.int mk), .val (.int tk), .val (.int ia), .val (.int ib), .val (.int sel), .val (.int tk), .val (.int ia), .val (.long (own_rk mk ia)), .second, .unset, .unset, .unset, .unset]) rfl kk_) ?_
      show OwnG p e below s _ _ _ (T10.setTop (mkF m 35 #[.val (.int mk), .val (.int tk), .val (.int ia), .val (.int ib), .val (.int sel), .val (.int tk), .val (.int ia), .val (.long (own_rk mk ia)), .second, .unset, .unset, .unset, .unset] []))
      refine own_by (fun t kk_ => XS.iload X10.here hx rfl (hb hby at_35) rfl  kk_) ?_
      show OwnG p e below s _ _ _ (T10.setTop (mkF m 37 #[.val (.int mk), .val (.int tk), .val (.int ia), .val (.int ib), .val (.int sel), .val (.int tk), .val (.int ia), .val (.long (own_rk mk ia)), .second, .unset, .unset, .unset, .unset] [(.int tk)]))
      refine own_by (fun t kk_ => XS.iload X10.here hx rfl (hb hby at_37) rfl  kk_) ?_
      show OwnG p e below s _ _ _ (T10.setTop (mkF m 39 #[.val (.int mk), .val (.int tk), .val (.int ia), .val (.int ib), .val (.int sel), .val (.int tk), .val (.int ia), .val (.long (own_rk mk ia)), .second, .unset, .unset, .unset, .unset] [(.int ia), (.int tk)]))
      obtain ⟨_, _, ⟨T11, L11, k11, n11⟩, -, X11, ⟨Lc11, hQ11, l11, y11, z11⟩, st11⟩ := Jvm.LawKit.callS X10 hx (y := (⟨"com/example/score_on_crawl/scoreoncrawl/engine/PageTreeBeforePinLaw", "rank", "(II)J"⟩ : MethodName)) hown (mvT hZ (hw _ (List.mem_of_getElem? (i := 0) rfl))) (mvT hZ (hw _ (List.mem_of_getElem? (i := 1) rfl))) (mvT hZ (hw _ (List.mem_of_getElem? (i := 2) rfl))) (mvT hZ (hw _ (List.mem_of_getElem? (i := 3) rfl))) (by decide) (backOf (W := 0) (rm1 l Z a0 hw [] tk ia T10.heap n0 sz10) hZ (hw _ (List.mem_of_getElem? (i := 3) rfl)) (hw _ (List.mem_of_getElem? (i := 2) rfl)) (by decide) (by decide)) (g := (mkF m 39 #[.val (.int mk), .val (.int tk), .val (.int ia), .val (.int ib), .val (.int sel), .val (.int tk), .val (.int ia), .val (.long (own_rk mk ia)), .second, .unset, .unset, .unset, .unset] [(.int ia), (.int tk)])) rfl (by rw [hml]; rfl) (argsL := [(.int tk), (.int ia)]) (rest := []) (lenOf pd_0 rfl) rfl (by show 2 * 0 + _ ≤ _; exact Nat.le_of_eq rfl) (hb hby at_39) (fun _ _ => ⟨rfl, (rfl : T10.heap = T10.heap), (by decide : 0 + 0 ≤ _), (by decide : 0 + 0 ≤ _)⟩)
      dsimp only [Pt.U, Pt.locs, Pt.cells, Pt.slots] at X11 l11 y11 z11 st11 hQ11
      subst l11 y11 z11
      refine own_by (fun t kk_ => st11 _ kk_) ?_
      obtain ⟨rfl, N11q, hh11⟩ := hQ11
      have N11 := Fr.app N10 N11q
      have sz11 : n0 ≤ T11.heap.size := by rw [hh11]; exact sz10
      show OwnG p e below s _ _ _ (T11.setTop (mkF m 42 #[.val (.int mk), .val (.int tk), .val (.int ia), .val (.int ib), .val (.int sel), .val (.int tk), .val (.int ia), .val (.long (own_rk mk ia)), .second, .unset, .unset, .unset, .unset] [(.long (own_rk tk ia))]))
      refine own_by (fun t kk_ => XS.lstore X11.here hx rfl (hb hby at_42) rfl (l' := #[.val (.int mk), .val (.int tk), .val (.int ia), .val (.int ib), .val (.int sel), .val (.int tk), .val (.int ia), .val (.long (own_rk mk ia)), .second, .val (.long (own_rk tk ia)), .second, .unset, .unset]) rfl kk_) ?_
      show OwnG p e below s _ _ _ (T11.setTop (mkF m 44 #[.val (.int mk), .val (.int tk), .val (.int ia), .val (.int ib), .val (.int sel), .val (.int tk), .val (.int ia), .val (.long (own_rk mk ia)), .second, .val (.long (own_rk tk ia)), .second, .unset, .unset] []))
      refine own_by (fun t kk_ => XS.iloadN X11.here hx rfl (hb hby at_44) rfl  kk_) ?_
      show OwnG p e below s _ _ _ (T11.setTop (mkF m 45 #[.val (.int mk), .val (.int tk), .val (.int ia), .val (.int ib), .val (.int sel), .val (.int tk), .val (.int ia), .val (.long (own_rk mk ia)), .second, .val (.long (own_rk tk ia)), .second, .unset, .unset] [(.int mk)]))
      refine own_by (fun t kk_ => XS.i2dS X11.here hx rfl (hb hby at_45) rfl rfl kk_) ?_
      show OwnG p e below s _ _ _ (T11.setTop (mkF m 46 #[.val (.int mk), .val (.int tk), .val (.int ia), .val (.int ib), .val (.int sel), .val (.int tk), .val (.int ia), .val (.long (own_rk mk ia)), .second, .val (.long (own_rk tk ia)), .second, .unset, .unset] [(.double (FP.i2d mk))]))
      refine own_by (fun t kk_ => XS.iloadN X11.here hx rfl (hb hby at_46) rfl  kk_) ?_
      show OwnG p e below s _ _ _ (T11.setTop (mkF m 47 #[.val (.int mk), .val (.int tk), .val (.int ia), .val (.int ib), .val (.int sel), .val (.int tk), .val (.int ia), .val (.long (own_rk mk ia)), .second, .val (.long (own_rk tk ia)), .second, .unset, .unset] [(.int ia), (.double (FP.i2d mk))]))
      refine own_by (fun t kk_ => XS.iload X11.here hx rfl (hb hby at_47) rfl  kk_) ?_
      show OwnG p e below s _ _ _ (T11.setTop (mkF m 49 #[.val (.int mk), .val (.int tk), .val (.int ia), .val (.int ib), .val (.int sel), .val (.int tk), .val (.int ia), .val (.long (own_rk mk ia)), .second, .val (.long (own_rk tk ia)), .second, .unset, .unset] [(.int tk), (.int ia), (.double (FP.i2d mk))]))
      refine own_by (fun t kk_ => XS.i2dS X11.here hx rfl (hb hby at_49) rfl rfl kk_) ?_
      show OwnG p e below s _ _ _ (T11.setTop (mkF m 50 #[.val (.int mk), .val (.int tk), .val (.int ia), .val (.int ib), .val (.int sel), .val (.int tk), .val (.int ia), .val (.long (own_rk mk ia)), .second, .val (.long (own_rk tk ia)), .second, .unset, .unset] [(.double (FP.i2d tk)), (.int ia), (.double (FP.i2d mk))]))
      refine own_by (fun t kk_ => XS.iload X11.here hx rfl (hb hby at_50) rfl  kk_) ?_
      show OwnG p e below s _ _ _ (T11.setTop (mkF m 52 #[.val (.int mk), .val (.int tk), .val (.int ia), .val (.int ib), .val (.int sel), .val (.int tk), .val (.int ia), .val (.long (own_rk mk ia)), .second, .val (.long (own_rk tk ia)), .second, .unset, .unset] [(.int ia), (.double (FP.i2d tk)), (.int ia), (.double (FP.i2d mk))]))
      obtain ⟨_, _, ⟨T12, L12, k12, n12⟩, -, X12, ⟨Lc12, hQ12, l12, y12, z12⟩, st12⟩ := Jvm.LawKit.callS X11 hx (y := (⟨"com/example/score_on_crawl/scoreoncrawl/engine/PageTree", "before", "(DIDI)Z"⟩ : MethodName)) hown (mvT hZ (hw _ (List.mem_of_getElem? (i := 5) rfl))) (mvT hZ (hw _ (List.mem_of_getElem? (i := 6) rfl))) (mvT hZ (hw _ (List.mem_of_getElem? (i := 7) rfl))) (mvT hZ (hw _ (List.mem_of_getElem? (i := 8) rfl))) (by decide) (backOf (W := 0) (rm2 l Z a0 hw [] mk ia tk ia T11.heap n0 sz11) hZ (hw _ (List.mem_of_getElem? (i := 8) rfl)) (hw _ (List.mem_of_getElem? (i := 7) rfl)) (by decide) (by decide)) (g := (mkF m 52 #[.val (.int mk), .val (.int tk), .val (.int ia), .val (.int ib), .val (.int sel), .val (.int tk), .val (.int ia), .val (.long (own_rk mk ia)), .second, .val (.long (own_rk tk ia)), .second, .unset, .unset] [(.int ia), (.double (FP.i2d tk)), (.int ia), (.double (FP.i2d mk))])) rfl (by rw [hml]; rfl) (argsL := [(.double (FP.i2d mk)), (.int ia), (.double (FP.i2d tk)), (.int ia)]) (rest := []) (lenOf pd_1 rfl) rfl (by show 2 * 0 + _ ≤ _; exact Nat.le_of_eq rfl) (hb hby at_52) (fun _ _ => ⟨rfl, (rfl : T11.heap = T11.heap), (by decide : 0 + 0 ≤ _), (by decide : 0 + 0 ≤ _)⟩)
      dsimp only [Pt.U, Pt.locs, Pt.cells, Pt.slots] at X12 l12 y12 z12 st12 hQ12
      subst l12 y12 z12
      refine own_by (fun t kk_ => st12 _ kk_) ?_
      obtain ⟨rfl, N12q, hh12⟩ := hQ12
      have N12 := Fr.app N11 N12q
      have sz12 : n0 ≤ T12.heap.size := by rw [hh12]; exact sz11
      show OwnG p e below s _ _ _ (T12.setTop (mkF m 55 #[.val (.int mk), .val (.int tk), .val (.int ia), .val (.int ib), .val (.int sel), .val (.int tk), .val (.int ia), .val (.long (own_rk mk ia)), .second, .val (.long (own_rk tk ia)), .second, .unset, .unset] [(.int (own_bf mk ia tk ia))]))
      refine own_by (fun t kk_ => XS.istore X12.here hx rfl (hb hby at_55) rfl (l' := #[.val (.int mk), .val (.int tk), .val (.int ia), .val (.int ib), .val (.int sel), .val (.int tk), .val (.int ia), .val (.long (own_rk mk ia)), .second, .val (.long (own_rk tk ia)), .second, .val (.int (own_bf mk ia tk ia)), .unset]) rfl kk_) ?_
      show OwnG p e below s _ _ _ (T12.setTop (mkF m 57 #[.val (.int mk), .val (.int tk), .val (.int ia), .val (.int ib), .val (.int sel), .val (.int tk), .val (.int ia), .val (.long (own_rk mk ia)), .second, .val (.long (own_rk tk ia)), .second, .val (.int (own_bf mk ia tk ia)), .unset] []))
      refine own_by (fun t kk_ => XS.iload X12.here hx rfl (hb hby at_57) rfl  kk_) ?_
      show OwnG p e below s _ _ _ (T12.setTop (mkF m 59 #[.val (.int mk), .val (.int tk), .val (.int ia), .val (.int ib), .val (.int sel), .val (.int tk), .val (.int ia), .val (.long (own_rk mk ia)), .second, .val (.long (own_rk tk ia)), .second, .val (.int (own_bf mk ia tk ia)), .unset] [(.int tk)]))
      refine own_by (fun t kk_ => XS.i2dS X12.here hx rfl (hb hby at_59) rfl rfl kk_) ?_
      show OwnG p e below s _ _ _ (T12.setTop (mkF m 60 #[.val (.int mk), .val (.int tk), .val (.int ia), .val (.int ib), .val (.int sel), .val (.int tk), .val (.int ia), .val (.long (own_rk mk ia)), .second, .val (.long (own_rk tk ia)), .second, .val (.int (own_bf mk ia tk ia)), .unset] [(.double (FP.i2d tk))]))
      refine own_by (fun t kk_ => XS.iload X12.here hx rfl (hb hby at_60) rfl  kk_) ?_
      show OwnG p e below s _ _ _ (T12.setTop (mkF m 62 #[.val (.int mk), .val (.int tk), .val (.int ia), .val (.int ib), .val (.int sel), .val (.int tk), .val (.int ia), .val (.long (own_rk mk ia)), .second, .val (.long (own_rk tk ia)), .second, .val (.int (own_bf mk ia tk ia)), .unset] [(.int ia), (.double (FP.i2d tk))]))
      refine own_by (fun t kk_ => XS.iloadN X12.here hx rfl (hb hby at_62) rfl  kk_) ?_
      show OwnG p e below s _ _ _ (T12.setTop (mkF m 63 #[.val (.int mk), .val (.int tk), .val (.int ia), .val (.int ib), .val (.int sel), .val (.int tk), .val (.int ia), .val (.long (own_rk mk ia)), .second, .val (.long (own_rk tk ia)), .second, .val (.int (own_bf mk ia tk ia)), .unset] [(.int mk), (.int ia), (.double (FP.i2d tk))]))
      refine own_by (fun t kk_ => XS.i2dS X12.here hx rfl (hb hby at_63) rfl rfl kk_) ?_
      show OwnG p e below s _ _ _ (T12.setTop (mkF m 64 #[.val (.int mk), .val (.int tk), .val (.int ia), .val (.int ib), .val (.int sel), .val (.int tk), .val (.int ia), .val (.long (own_rk mk ia)), .second, .val (.long (own_rk tk ia)), .second, .val (.int (own_bf mk ia tk ia)), .unset] [(.double (FP.i2d mk)), (.int ia), (.double (FP.i2d tk))]))
      refine own_by (fun t kk_ => XS.iloadN X12.here hx rfl (hb hby at_64) rfl  kk_) ?_
      show OwnG p e below s _ _ _ (T12.setTop (mkF m 65 #[.val (.int mk), .val (.int tk), .val (.int ia), .val (.int ib), .val (.int sel), .val (.int tk), .val (.int ia), .val (.long (own_rk mk ia)), .second, .val (.long (own_rk tk ia)), .second, .val (.int (own_bf mk ia tk ia)), .unset] [(.int ia), (.double (FP.i2d mk)), (.int ia), (.double (FP.i2d tk))]))
      obtain ⟨_, _, ⟨T13, L13, k13, n13⟩, -, X13, ⟨Lc13, hQ13, l13, y13, z13⟩, st13⟩ := Jvm.LawKit.callS X12 hx (y := (⟨"com/example/score_on_crawl/scoreoncrawl/engine/PageTree", "before", "(DIDI)Z"⟩ : MethodName)) hown (mvT hZ (hw _ (List.mem_of_getElem? (i := 5) rfl))) (mvT hZ (hw _ (List.mem_of_getElem? (i := 6) rfl))) (mvT hZ (hw _ (List.mem_of_getElem? (i := 7) rfl))) (mvT hZ (hw _ (List.mem_of_getElem? (i := 8) rfl))) (by decide) (backOf (W := 0) (rm2 l Z a0 hw [] tk ia mk ia T12.heap n0 sz12) hZ (hw _ (List.mem_of_getElem? (i := 8) rfl)) (hw _ (List.mem_of_getElem? (i := 7) rfl)) (by decide) (by decide)) (g := (mkF m 65 #[.val (.int mk), .val (.int tk), .val (.int ia), .val (.int ib), .val (.int sel), .val (.int tk), .val (.int ia), .val (.long (own_rk mk ia)), .second, .val (.long (own_rk tk ia)), .second, .val (.int (own_bf mk ia tk ia)), .unset] [(.int ia), (.double (FP.i2d mk)), (.int ia), (.double (FP.i2d tk))])) rfl (by rw [hml]; rfl) (argsL := [(.double (FP.i2d tk)), (.int ia), (.double (FP.i2d mk)), (.int ia)]) (rest := []) (lenOf pd_1 rfl) rfl (by show 2 * 0 + _ ≤ _; exact Nat.le_of_eq rfl) (hb hby at_65) (fun _ _ => ⟨rfl, (rfl : T12.heap = T12.heap), (by decide : 0 + 0 ≤ _), (by decide : 0 + 0 ≤ _)⟩)
      dsimp only [Pt.U, Pt.locs, Pt.cells, Pt.slots] at X13 l13 y13 z13 st13 hQ13
      subst l13 y13 z13
      refine own_by (fun t kk_ => st13 _ kk_) ?_
      obtain ⟨rfl, N13q, hh13⟩ := hQ13
      have N13 := Fr.app N12 N13q
      have sz13 : n0 ≤ T13.heap.size := by rw [hh13]; exact sz12
      show OwnG p e below s _ _ _ (T13.setTop (mkF m 68 #[.val (.int mk), .val (.int tk), .val (.int ia), .val (.int ib), .val (.int sel), .val (.int tk), .val (.int ia), .val (.long (own_rk mk ia)), .second, .val (.long (own_rk tk ia)), .second, .val (.int (own_bf mk ia tk ia)), .unset] [(.int (own_bf tk ia mk ia))]))
      refine own_by (fun t kk_ => XS.istore X13.here hx rfl (hb hby at_68) rfl (l' := #[.val (.int mk), .val (.int tk), .val (.int ia), .val (.int ib), .val (.int sel), .val (.int tk), .val (.int ia), .val (.long (own_rk mk ia)), .second, .val (.long (own_rk tk ia)), .second, .val (.int (own_bf mk ia tk ia)), .val (.int (own_bf tk ia mk ia))]) rfl kk_) ?_
      show OwnG p e below s _ _ _ (T13.setTop (mkF m 70 #[.val (.int mk), .val (.int tk), .val (.int ia), .val (.int ib), .val (.int sel), .val (.int tk), .val (.int ia), .val (.long (own_rk mk ia)), .second, .val (.long (own_rk tk ia)), .second, .val (.int (own_bf mk ia tk ia)), .val (.int (own_bf tk ia mk ia))] []))
      refine own_by (fun t kk_ => XS.iload X13.here hx rfl (hb hby at_70) rfl  kk_) ?_
      show OwnG p e below s _ _ _ (T13.setTop (mkF m 72 #[.val (.int mk), .val (.int tk), .val (.int ia), .val (.int ib), .val (.int sel), .val (.int tk), .val (.int ia), .val (.long (own_rk mk ia)), .second, .val (.long (own_rk tk ia)), .second, .val (.int (own_bf mk ia tk ia)), .val (.int (own_bf tk ia mk ia))] [(.int (own_bf mk ia tk ia))]))
      refine own_by (fun t kk_ => XS.lload X13.here hx rfl (hb hby at_72) rfl  kk_) ?_
      show OwnG p e below s _ _ _ (T13.setTop (mkF m 74 #[.val (.int mk), .val (.int tk), .val (.int ia), .val (.int ib), .val (.int sel), .val (.int tk), .val (.int ia), .val (.long (own_rk mk ia)), .second, .val (.long (own_rk tk ia)), .second, .val (.int (own_bf mk ia tk ia)), .val (.int (own_bf tk ia mk ia))] [(.long (own_rk mk ia)), (.int (own_bf mk ia tk ia))]))
      refine own_by (fun t kk_ => XS.lload X13.here hx rfl (hb hby at_74) rfl  kk_) ?_
      show OwnG p e below s _ _ _ (T13.setTop (mkF m 76 #[.val (.int mk), .val (.int tk), .val (.int ia), .val (.int ib), .val (.int sel), .val (.int tk), .val (.int ia), .val (.long (own_rk mk ia)), .second, .val (.long (own_rk tk ia)), .second, .val (.int (own_bf mk ia tk ia)), .val (.int (own_bf tk ia mk ia))] [(.long (own_rk tk ia)), (.long (own_rk mk ia)), (.int (own_bf mk ia tk ia))]))
      refine own_by (fun t kk_ => XS.lcmp X13.here hx rfl (hb hby at_76) rfl kk_) ?_
      show OwnG p e below s _ _ _ (T13.setTop (mkF m 77 #[.val (.int mk), .val (.int tk), .val (.int ia), .val (.int ib), .val (.int sel), .val (.int tk), .val (.int ia), .val (.long (own_rk mk ia)), .second, .val (.long (own_rk tk ia)), .second, .val (.int (own_bf mk ia tk ia)), .val (.int (own_bf tk ia mk ia))] [(.int (lcmpW (own_rk mk ia) (own_rk tk ia))), (.int (own_bf mk ia tk ia))]))
      by_cases hb77_14 : (own_rk tk ia) < (own_rk mk ia)
      · refine own_by (fun t kk_ => XS.ifNo X13.here hx rfl (hb hby at_77) rfl ((if0 _ _).trans (tlt ((lw_gt _ _).mpr hb77_14)).2.2.2) kk_) ?_
        show OwnG p e below s _ _ _ (T13.setTop (mkF m 80 #[.val (.int mk), .val (.int tk), .val (.int ia), .val (.int ib), .val (.int sel), .val (.int tk), .val (.int ia), .val (.long (own_rk mk ia)), .second, .val (.long (own_rk tk ia)), .second, .val (.int (own_bf mk ia tk ia)), .val (.int (own_bf tk ia mk ia))] [(.int (own_bf mk ia tk ia))]))
        refine own_by (fun t kk_ => XS.iconst X13.here hx rfl (hb hby at_80) kk_) ?_
        show OwnG p e below s _ _ _ (T13.setTop (mkF m 81 #[.val (.int mk), .val (.int tk), .val (.int ia), .val (.int ib), .val (.int sel), .val (.int tk), .val (.int ia), .val (.long (own_rk mk ia)), .second, .val (.long (own_rk tk ia)), .second, .val (.int (own_bf mk ia tk ia)), .val (.int (own_bf tk ia mk ia))] [(.int (1 : Int32)), (.int (own_bf mk ia tk ia))]))
        refine own_by (fun t kk_ => XS.goto X13.here hx rfl (pc0 := 81) (pc' := 85) rfl (hb hby at_81) (by decide) (by decide) kk_) ?_
        show OwnG p e below s _ _ _ (T13.setTop (mkF m 85 #[.val (.int mk), .val (.int tk), .val (.int ia), .val (.int ib), .val (.int sel), .val (.int tk), .val (.int ia), .val (.long (own_rk mk ia)), .second, .val (.long (own_rk tk ia)), .second, .val (.int (own_bf mk ia tk ia)), .val (.int (own_bf tk ia mk ia))] [(.int (1 : Int32)), (.int (own_bf mk ia tk ia))]))
        refine own_by (fun t kk_ => XS.icmpNo X13.here hx rfl (hb hby at_85) rfl (teq (own_T hb77_14)).2 kk_) ?_
        show OwnG p e below s _ _ _ (T13.setTop (mkF m 88 #[.val (.int mk), .val (.int tk), .val (.int ia), .val (.int ib), .val (.int sel), .val (.int tk), .val (.int ia), .val (.long (own_rk mk ia)), .second, .val (.long (own_rk tk ia)), .second, .val (.int (own_bf mk ia tk ia)), .val (.int (own_bf tk ia mk ia))] []))
        refine own_by (fun t kk_ => XS.iload X13.here hx rfl (hb hby at_88) rfl  kk_) ?_
        show OwnG p e below s _ _ _ (T13.setTop (mkF m 90 #[.val (.int mk), .val (.int tk), .val (.int ia), .val (.int ib), .val (.int sel), .val (.int tk), .val (.int ia), .val (.long (own_rk mk ia)), .second, .val (.long (own_rk tk ia)), .second, .val (.int (own_bf mk ia tk ia)), .val (.int (own_bf tk ia mk ia))] [(.int (own_bf tk ia mk ia))]))
        refine own_by (fun t kk_ => XS.lload X13.here hx rfl (hb hby at_90) rfl  kk_) ?_
        show OwnG p e below s _ _ _ (T13.setTop (mkF m 92 #[.val (.int mk), .val (.int tk), .val (.int ia), .val (.int ib), .val (.int sel), .val (.int tk), .val (.int ia), .val (.long (own_rk mk ia)), .second, .val (.long (own_rk tk ia)), .second, .val (.int (own_bf mk ia tk ia)), .val (.int (own_bf tk ia mk ia))] [(.long (own_rk tk ia)), (.int (own_bf tk ia mk ia))]))
        refine own_by (fun t kk_ => XS.lload X13.here hx rfl (hb hby at_92) rfl  kk_) ?_
        show OwnG p e below s _ _ _ (T13.setTop (mkF m 94 #[.val (.int mk), .val (.int tk), .val (.int ia), .val (.int ib), .val (.int sel), .val (.int tk), .val (.int ia), .val (.long (own_rk mk ia)), .second, .val (.long (own_rk tk ia)), .second, .val (.int (own_bf mk ia tk ia)), .val (.int (own_bf tk ia mk ia))] [(.long (own_rk mk ia)), (.long (own_rk tk ia)), (.int (own_bf tk ia mk ia))]))
        refine own_by (fun t kk_ => XS.lcmp X13.here hx rfl (hb hby at_94) rfl kk_) ?_
        show OwnG p e below s _ _ _ (T13.setTop (mkF m 95 #[.val (.int mk), .val (.int tk), .val (.int ia), .val (.int ib), .val (.int sel), .val (.int tk), .val (.int ia), .val (.long (own_rk mk ia)), .second, .val (.long (own_rk tk ia)), .second, .val (.int (own_bf mk ia tk ia)), .val (.int (own_bf tk ia mk ia))] [(.int (lcmpW (own_rk tk ia) (own_rk mk ia))), (.int (own_bf tk ia mk ia))]))
        by_cases hb95_15 : (own_rk mk ia) < (own_rk tk ia)
        · refine own_by (fun t kk_ => XS.ifNo X13.here hx rfl (hb hby at_95) rfl ((if0 _ _).trans (tlt ((lw_gt _ _).mpr hb95_15)).2.2.2) kk_) ?_
          show OwnG p e below s _ _ _ (T13.setTop (mkF m 98 #[.val (.int mk), .val (.int tk), .val (.int ia), .val (.int ib), .val (.int sel), .val (.int tk), .val (.int ia), .val (.long (own_rk mk ia)), .second, .val (.long (own_rk tk ia)), .second, .val (.int (own_bf mk ia tk ia)), .val (.int (own_bf tk ia mk ia))] [(.int (own_bf tk ia mk ia))]))
          refine own_by (fun t kk_ => XS.iconst X13.here hx rfl (hb hby at_98) kk_) ?_
          show OwnG p e below s _ _ _ (T13.setTop (mkF m 99 #[.val (.int mk), .val (.int tk), .val (.int ia), .val (.int ib), .val (.int sel), .val (.int tk), .val (.int ia), .val (.long (own_rk mk ia)), .second, .val (.long (own_rk tk ia)), .second, .val (.int (own_bf mk ia tk ia)), .val (.int (own_bf tk ia mk ia))] [(.int (1 : Int32)), (.int (own_bf tk ia mk ia))]))
          refine own_by (fun t kk_ => XS.goto X13.here hx rfl (pc0 := 99) (pc' := 103) rfl (hb hby at_99) (by decide) (by decide) kk_) ?_
          show OwnG p e below s _ _ _ (T13.setTop (mkF m 103 #[.val (.int mk), .val (.int tk), .val (.int ia), .val (.int ib), .val (.int sel), .val (.int tk), .val (.int ia), .val (.long (own_rk mk ia)), .second, .val (.long (own_rk tk ia)), .second, .val (.int (own_bf mk ia tk ia)), .val (.int (own_bf tk ia mk ia))] [(.int (1 : Int32)), (.int (own_bf tk ia mk ia))]))
          refine own_by (fun t kk_ => XS.icmpNo X13.here hx rfl (hb hby at_103) rfl (teq (own_T hb95_15)).2 kk_) ?_
          show OwnG p e below s _ _ _ (T13.setTop (mkF m 106 #[.val (.int mk), .val (.int tk), .val (.int ia), .val (.int ib), .val (.int sel), .val (.int tk), .val (.int ia), .val (.long (own_rk mk ia)), .second, .val (.long (own_rk tk ia)), .second, .val (.int (own_bf mk ia tk ia)), .val (.int (own_bf tk ia mk ia))] []))
          refine own_by (fun t kk_ => XS.iconst X13.here hx rfl (hb hby at_106) kk_) ?_
          show OwnG p e below s _ _ _ (T13.setTop (mkF m 107 #[.val (.int mk), .val (.int tk), .val (.int ia), .val (.int ib), .val (.int sel), .val (.int tk), .val (.int ia), .val (.long (own_rk mk ia)), .second, .val (.long (own_rk tk ia)), .second, .val (.int (own_bf mk ia tk ia)), .val (.int (own_bf tk ia mk ia))] [(.int (1 : Int32))]))
          refine own_by (fun t kk_ => XS.goto X13.here hx rfl (pc0 := 107) (pc' := 111) rfl (hb hby at_107) (by decide) (by decide) kk_) ?_
          show OwnG p e below s _ _ _ (T13.setTop (mkF m 111 #[.val (.int mk), .val (.int tk), .val (.int ia), .val (.int ib), .val (.int sel), .val (.int tk), .val (.int ia), .val (.long (own_rk mk ia)), .second, .val (.long (own_rk tk ia)), .second, .val (.int (own_bf mk ia tk ia)), .val (.int (own_bf tk ia mk ia))] [(.int (1 : Int32))]))
          exact own_outN X13 hx hret (by simp) hlk (hb hby at_111) rfl (⟨rfl, N13⟩) (by decide) (by decide)
        · refine own_by (fun t kk_ => XS.ifYes X13.here hx rfl (pc0 := 95) (pc' := 102) rfl (hb hby at_95) rfl ((if0 _ _).trans (flt (fun q => hb95_15 ((lw_gt _ _).mp q))).2.2.2) (by decide) (by decide) kk_) ?_
          show OwnG p e below s _ _ _ (T13.setTop (mkF m 102 #[.val (.int mk), .val (.int tk), .val (.int ia), .val (.int ib), .val (.int sel), .val (.int tk), .val (.int ia), .val (.long (own_rk mk ia)), .second, .val (.long (own_rk tk ia)), .second, .val (.int (own_bf mk ia tk ia)), .val (.int (own_bf tk ia mk ia))] [(.int (own_bf tk ia mk ia))]))
          refine own_by (fun t kk_ => XS.iconst X13.here hx rfl (hb hby at_102) kk_) ?_
          show OwnG p e below s _ _ _ (T13.setTop (mkF m 103 #[.val (.int mk), .val (.int tk), .val (.int ia), .val (.int ib), .val (.int sel), .val (.int tk), .val (.int ia), .val (.long (own_rk mk ia)), .second, .val (.long (own_rk tk ia)), .second, .val (.int (own_bf mk ia tk ia)), .val (.int (own_bf tk ia mk ia))] [(.int (0 : Int32)), (.int (own_bf tk ia mk ia))]))
          refine own_by (fun t kk_ => XS.icmpNo X13.here hx rfl (hb hby at_103) rfl (teq (own_F hb95_15)).2 kk_) ?_
          show OwnG p e below s _ _ _ (T13.setTop (mkF m 106 #[.val (.int mk), .val (.int tk), .val (.int ia), .val (.int ib), .val (.int sel), .val (.int tk), .val (.int ia), .val (.long (own_rk mk ia)), .second, .val (.long (own_rk tk ia)), .second, .val (.int (own_bf mk ia tk ia)), .val (.int (own_bf tk ia mk ia))] []))
          refine own_by (fun t kk_ => XS.iconst X13.here hx rfl (hb hby at_106) kk_) ?_
          show OwnG p e below s _ _ _ (T13.setTop (mkF m 107 #[.val (.int mk), .val (.int tk), .val (.int ia), .val (.int ib), .val (.int sel), .val (.int tk), .val (.int ia), .val (.long (own_rk mk ia)), .second, .val (.long (own_rk tk ia)), .second, .val (.int (own_bf mk ia tk ia)), .val (.int (own_bf tk ia mk ia))] [(.int (1 : Int32))]))
          refine own_by (fun t kk_ => XS.goto X13.here hx rfl (pc0 := 107) (pc' := 111) rfl (hb hby at_107) (by decide) (by decide) kk_) ?_
          show OwnG p e below s _ _ _ (T13.setTop (mkF m 111 #[.val (.int mk), .val (.int tk), .val (.int ia), .val (.int ib), .val (.int sel), .val (.int tk), .val (.int ia), .val (.long (own_rk mk ia)), .second, .val (.long (own_rk tk ia)), .second, .val (.int (own_bf mk ia tk ia)), .val (.int (own_bf tk ia mk ia))] [(.int (1 : Int32))]))
          exact own_outN X13 hx hret (by simp) hlk (hb hby at_111) rfl (⟨rfl, N13⟩) (by decide) (by decide)
      · refine own_by (fun t kk_ => XS.ifYes X13.here hx rfl (pc0 := 77) (pc' := 84) rfl (hb hby at_77) rfl ((if0 _ _).trans (flt (fun q => hb77_14 ((lw_gt _ _).mp q))).2.2.2) (by decide) (by decide) kk_) ?_
        show OwnG p e below s _ _ _ (T13.setTop (mkF m 84 #[.val (.int mk), .val (.int tk), .val (.int ia), .val (.int ib), .val (.int sel), .val (.int tk), .val (.int ia), .val (.long (own_rk mk ia)), .second, .val (.long (own_rk tk ia)), .second, .val (.int (own_bf mk ia tk ia)), .val (.int (own_bf tk ia mk ia))] [(.int (own_bf mk ia tk ia))]))
        refine own_by (fun t kk_ => XS.iconst X13.here hx rfl (hb hby at_84) kk_) ?_
        show OwnG p e below s _ _ _ (T13.setTop (mkF m 85 #[.val (.int mk), .val (.int tk), .val (.int ia), .val (.int ib), .val (.int sel), .val (.int tk), .val (.int ia), .val (.long (own_rk mk ia)), .second, .val (.long (own_rk tk ia)), .second, .val (.int (own_bf mk ia tk ia)), .val (.int (own_bf tk ia mk ia))] [(.int (0 : Int32)), (.int (own_bf mk ia tk ia))]))
        refine own_by (fun t kk_ => XS.icmpNo X13.here hx rfl (hb hby at_85) rfl (teq (own_F hb77_14)).2 kk_) ?_
        show OwnG p e below s _ _ _ (T13.setTop (mkF m 88 #[.val (.int mk), .val (.int tk), .val (.int ia), .val (.int ib), .val (.int sel), .val (.int tk), .val (.int ia), .val (.long (own_rk mk ia)), .second, .val (.long (own_rk tk ia)), .second, .val (.int (own_bf mk ia tk ia)), .val (.int (own_bf tk ia mk ia))] []))
        refine own_by (fun t kk_ => XS.iload X13.here hx rfl (hb hby at_88) rfl  kk_) ?_
        show OwnG p e below s _ _ _ (T13.setTop (mkF m 90 #[.val (.int mk), .val (.int tk), .val (.int ia), .val (.int ib), .val (.int sel), .val (.int tk), .val (.int ia), .val (.long (own_rk mk ia)), .second, .val (.long (own_rk tk ia)), .second, .val (.int (own_bf mk ia tk ia)), .val (.int (own_bf tk ia mk ia))] [(.int (own_bf tk ia mk ia))]))
        refine own_by (fun t kk_ => XS.lload X13.here hx rfl (hb hby at_90) rfl  kk_) ?_
        show OwnG p e below s _ _ _ (T13.setTop (mkF m 92 #[.val (.int mk), .val (.int tk), .val (.int ia), .val (.int ib), .val (.int sel), .val (.int tk), .val (.int ia), .val (.long (own_rk mk ia)), .second, .val (.long (own_rk tk ia)), .second, .val (.int (own_bf mk ia tk ia)), .val (.int (own_bf tk ia mk ia))] [(.long (own_rk tk ia)), (.int (own_bf tk ia mk ia))]))
        refine own_by (fun t kk_ => XS.lload X13.here hx rfl (hb hby at_92) rfl  kk_) ?_
        show OwnG p e below s _ _ _ (T13.setTop (mkF m 94 #[.val (.int mk), .val (.int tk), .val (.int ia), .val (.int ib), .val (.int sel), .val (.int tk), .val (.int ia), .val (.long (own_rk mk ia)), .second, .val (.long (own_rk tk ia)), .second, .val (.int (own_bf mk ia tk ia)), .val (.int (own_bf tk ia mk ia))] [(.long (own_rk mk ia)), (.long (own_rk tk ia)), (.int (own_bf tk ia mk ia))]))
        refine own_by (fun t kk_ => XS.lcmp X13.here hx rfl (hb hby at_94) rfl kk_) ?_
        show OwnG p e below s _ _ _ (T13.setTop (mkF m 95 #[.val (.int mk), .val (.int tk), .val (.int ia), .val (.int ib), .val (.int sel), .val (.int tk), .val (.int ia), .val (.long (own_rk mk ia)), .second, .val (.long (own_rk tk ia)), .second, .val (.int (own_bf mk ia tk ia)), .val (.int (own_bf tk ia mk ia))] [(.int (lcmpW (own_rk tk ia) (own_rk mk ia))), (.int (own_bf tk ia mk ia))]))
        by_cases hb95_16 : (own_rk mk ia) < (own_rk tk ia)
        · refine own_by (fun t kk_ => XS.ifNo X13.here hx rfl (hb hby at_95) rfl ((if0 _ _).trans (tlt ((lw_gt _ _).mpr hb95_16)).2.2.2) kk_) ?_
          show OwnG p e below s _ _ _ (T13.setTop (mkF m 98 #[.val (.int mk), .val (.int tk), .val (.int ia), .val (.int ib), .val (.int sel), .val (.int tk), .val (.int ia), .val (.long (own_rk mk ia)), .second, .val (.long (own_rk tk ia)), .second, .val (.int (own_bf mk ia tk ia)), .val (.int (own_bf tk ia mk ia))] [(.int (own_bf tk ia mk ia))]))
          refine own_by (fun t kk_ => XS.iconst X13.here hx rfl (hb hby at_98) kk_) ?_
          show OwnG p e below s _ _ _ (T13.setTop (mkF m 99 #[.val (.int mk), .val (.int tk), .val (.int ia), .val (.int ib), .val (.int sel), .val (.int tk), .val (.int ia), .val (.long (own_rk mk ia)), .second, .val (.long (own_rk tk ia)), .second, .val (.int (own_bf mk ia tk ia)), .val (.int (own_bf tk ia mk ia))] [(.int (1 : Int32)), (.int (own_bf tk ia mk ia))]))
          refine own_by (fun t kk_ => XS.goto X13.here hx rfl (pc0 := 99) (pc' := 103) rfl (hb hby at_99) (by decide) (by decide) kk_) ?_
          show OwnG p e below s _ _ _ (T13.setTop (mkF m 103 #[.val (.int mk), .val (.int tk), .val (.int ia), .val (.int ib), .val (.int sel), .val (.int tk), .val (.int ia), .val (.long (own_rk mk ia)), .second, .val (.long (own_rk tk ia)), .second, .val (.int (own_bf mk ia tk ia)), .val (.int (own_bf tk ia mk ia))] [(.int (1 : Int32)), (.int (own_bf tk ia mk ia))]))
          refine own_by (fun t kk_ => XS.icmpNo X13.here hx rfl (hb hby at_103) rfl (teq (own_T hb95_16)).2 kk_) ?_
          show OwnG p e below s _ _ _ (T13.setTop (mkF m 106 #[.val (.int mk), .val (.int tk), .val (.int ia), .val (.int ib), .val (.int sel), .val (.int tk), .val (.int ia), .val (.long (own_rk mk ia)), .second, .val (.long (own_rk tk ia)), .second, .val (.int (own_bf mk ia tk ia)), .val (.int (own_bf tk ia mk ia))] []))
          refine own_by (fun t kk_ => XS.iconst X13.here hx rfl (hb hby at_106) kk_) ?_
          show OwnG p e below s _ _ _ (T13.setTop (mkF m 107 #[.val (.int mk), .val (.int tk), .val (.int ia), .val (.int ib), .val (.int sel), .val (.int tk), .val (.int ia), .val (.long (own_rk mk ia)), .second, .val (.long (own_rk tk ia)), .second, .val (.int (own_bf mk ia tk ia)), .val (.int (own_bf tk ia mk ia))] [(.int (1 : Int32))]))
          refine own_by (fun t kk_ => XS.goto X13.here hx rfl (pc0 := 107) (pc' := 111) rfl (hb hby at_107) (by decide) (by decide) kk_) ?_
          show OwnG p e below s _ _ _ (T13.setTop (mkF m 111 #[.val (.int mk), .val (.int tk), .val (.int ia), .val (.int ib), .val (.int sel), .val (.int tk), .val (.int ia), .val (.long (own_rk mk ia)), .second, .val (.long (own_rk tk ia)), .second, .val (.int (own_bf mk ia tk ia)), .val (.int (own_bf tk ia mk ia))] [(.int (1 : Int32))]))
          exact own_outN X13 hx hret (by simp) hlk (hb hby at_111) rfl (⟨rfl, N13⟩) (by decide) (by decide)
        · refine own_by (fun t kk_ => XS.ifYes X13.here hx rfl (pc0 := 95) (pc' := 102) rfl (hb hby at_95) rfl ((if0 _ _).trans (flt (fun q => hb95_16 ((lw_gt _ _).mp q))).2.2.2) (by decide) (by decide) kk_) ?_
          show OwnG p e below s _ _ _ (T13.setTop (mkF m 102 #[.val (.int mk), .val (.int tk), .val (.int ia), .val (.int ib), .val (.int sel), .val (.int tk), .val (.int ia), .val (.long (own_rk mk ia)), .second, .val (.long (own_rk tk ia)), .second, .val (.int (own_bf mk ia tk ia)), .val (.int (own_bf tk ia mk ia))] [(.int (own_bf tk ia mk ia))]))
          refine own_by (fun t kk_ => XS.iconst X13.here hx rfl (hb hby at_102) kk_) ?_
          show OwnG p e below s _ _ _ (T13.setTop (mkF m 103 #[.val (.int mk), .val (.int tk), .val (.int ia), .val (.int ib), .val (.int sel), .val (.int tk), .val (.int ia), .val (.long (own_rk mk ia)), .second, .val (.long (own_rk tk ia)), .second, .val (.int (own_bf mk ia tk ia)), .val (.int (own_bf tk ia mk ia))] [(.int (0 : Int32)), (.int (own_bf tk ia mk ia))]))
          refine own_by (fun t kk_ => XS.icmpNo X13.here hx rfl (hb hby at_103) rfl (teq (own_F hb95_16)).2 kk_) ?_
          show OwnG p e below s _ _ _ (T13.setTop (mkF m 106 #[.val (.int mk), .val (.int tk), .val (.int ia), .val (.int ib), .val (.int sel), .val (.int tk), .val (.int ia), .val (.long (own_rk mk ia)), .second, .val (.long (own_rk tk ia)), .second, .val (.int (own_bf mk ia tk ia)), .val (.int (own_bf tk ia mk ia))] []))
          refine own_by (fun t kk_ => XS.iconst X13.here hx rfl (hb hby at_106) kk_) ?_
          show OwnG p e below s _ _ _ (T13.setTop (mkF m 107 #[.val (.int mk), .val (.int tk), .val (.int ia), .val (.int ib), .val (.int sel), .val (.int tk), .val (.int ia), .val (.long (own_rk mk ia)), .second, .val (.long (own_rk tk ia)), .second, .val (.int (own_bf mk ia tk ia)), .val (.int (own_bf tk ia mk ia))] [(.int (1 : Int32))]))
          refine own_by (fun t kk_ => XS.goto X13.here hx rfl (pc0 := 107) (pc' := 111) rfl (hb hby at_107) (by decide) (by decide) kk_) ?_
          show OwnG p e below s _ _ _ (T13.setTop (mkF m 111 #[.val (.int mk), .val (.int tk), .val (.int ia), .val (.int ib), .val (.int sel), .val (.int tk), .val (.int ia), .val (.long (own_rk mk ia)), .second, .val (.long (own_rk tk ia)), .second, .val (.int (own_bf mk ia tk ia)), .val (.int (own_bf tk ia mk ia))] [(.int (1 : Int32))]))
          exact own_outN X13 hx hret (by simp) hlk (hb hby at_111) rfl (⟨rfl, N13⟩) (by decide) (by decide)
  · refine own_by (fun t kk_ => XS.ifNo X0.here hx rfl (hb hby at_4) rfl ((if0 _ _).trans (feq hb4_1).1) kk_) ?_
    show OwnG p e below s _ _ _ (s₁.setTop (mkF m 7 #[.val (.int mk), .val (.int tk), .val (.int ia), .val (.int ib), .val (.int sel), .unset, .unset, .unset, .unset, .unset, .unset, .unset, .unset] []))
    refine own_by (fun t kk_ => XS.iloadN X0.here hx rfl (hb hby at_7) rfl  kk_) ?_
    show OwnG p e below s _ _ _ (s₁.setTop (mkF m 8 #[.val (.int mk), .val (.int tk), .val (.int ia), .val (.int ib), .val (.int sel), .unset, .unset, .unset, .unset, .unset, .unset, .unset, .unset] [(.int mk)]))
    refine own_by (fun t kk_ => XS.goto X0.here hx rfl (pc0 := 8) (pc' := 12) rfl (hb hby at_8) (by decide) (by decide) kk_) ?_
    show OwnG p e below s _ _ _ (s₁.setTop (mkF m 12 #[.val (.int mk), .val (.int tk), .val (.int ia), .val (.int ib), .val (.int sel), .unset, .unset, .unset, .unset, .unset, .unset, .unset, .unset] [(.int mk)]))
    refine own_by (fun t kk_ => XS.istore X0.here hx rfl (hb hby at_12) rfl (l' := #[.val (.int mk), .val (.int tk), .val (.int ia), .val (.int ib), .val (.int sel), .val (.int mk), .unset, .unset, .unset, .unset, .unset, .unset, .unset]) rfl kk_) ?_
    show OwnG p e below s _ _ _ (s₁.setTop (mkF m 14 #[.val (.int mk), .val (.int tk), .val (.int ia), .val (.int ib), .val (.int sel), .val (.int mk), .unset, .unset, .unset, .unset, .unset, .unset, .unset] []))
    refine own_by (fun t kk_ => XS.iload X0.here hx rfl (hb hby at_14) rfl  kk_) ?_
    show OwnG p e below s _ _ _ (s₁.setTop (mkF m 16 #[.val (.int mk), .val (.int tk), .val (.int ia), .val (.int ib), .val (.int sel), .val (.int mk), .unset, .unset, .unset, .unset, .unset, .unset, .unset] [(.int sel)]))
    refine own_by (fun t kk_ => XS.iconst X0.here hx rfl (hb hby at_16) kk_) ?_
    show OwnG p e below s _ _ _ (s₁.setTop (mkF m 17 #[.val (.int mk), .val (.int tk), .val (.int ia), .val (.int ib), .val (.int sel), .val (.int mk), .unset, .unset, .unset, .unset, .unset, .unset, .unset] [(.int (2 : Int32)), (.int sel)]))
    refine own_by (fun t kk_ => XS.iand X0.here hx rfl (hb hby at_17) rfl kk_) ?_
    show OwnG p e below s _ _ _ (s₁.setTop (mkF m 18 #[.val (.int mk), .val (.int tk), .val (.int ia), .val (.int ib), .val (.int sel), .val (.int mk), .unset, .unset, .unset, .unset, .unset, .unset, .unset] [(.int (sel &&& (2 : Int32)))]))
    by_cases hb18_17 : (sel &&& (2 : Int32)) = (0 : Int32)
    · refine own_by (fun t kk_ => XS.ifYes X0.here hx rfl (pc0 := 18) (pc' := 25) rfl (hb hby at_18) rfl ((if0 _ _).trans (teq hb18_17).1) (by decide) (by decide) kk_) ?_
      show OwnG p e below s _ _ _ (s₁.setTop (mkF m 25 #[.val (.int mk), .val (.int tk), .val (.int ia), .val (.int ib), .val (.int sel), .val (.int mk), .unset, .unset, .unset, .unset, .unset, .unset, .unset] []))
      refine own_by (fun t kk_ => XS.iloadN X0.here hx rfl (hb hby at_25) rfl  kk_) ?_
      show OwnG p e below s _ _ _ (s₁.setTop (mkF m 26 #[.val (.int mk), .val (.int tk), .val (.int ia), .val (.int ib), .val (.int sel), .val (.int mk), .unset, .unset, .unset, .unset, .unset, .unset, .unset] [(.int ib)]))
      refine own_by (fun t kk_ => XS.istore X0.here hx rfl (hb hby at_26) rfl (l' := #[.val (.int mk), .val (.int tk), .val (.int ia), .val (.int ib), .val (.int sel), .val (.int mk), .val (.int ib), .unset, .unset, .unset, .unset, .unset, .unset]) rfl kk_) ?_
      show OwnG p e below s _ _ _ (s₁.setTop (mkF m 28 #[.val (.int mk), .val (.int tk), .val (.int ia), .val (.int ib), .val (.int sel), .val (.int mk), .val (.int ib), .unset, .unset, .unset, .unset, .unset, .unset] []))
      refine own_by (fun t kk_ => XS.iloadN X0.here hx rfl (hb hby at_28) rfl  kk_) ?_
      show OwnG p e below s _ _ _ (s₁.setTop (mkF m 29 #[.val (.int mk), .val (.int tk), .val (.int ia), .val (.int ib), .val (.int sel), .val (.int mk), .val (.int ib), .unset, .unset, .unset, .unset, .unset, .unset] [(.int mk)]))
      refine own_by (fun t kk_ => XS.iloadN X0.here hx rfl (hb hby at_29) rfl  kk_) ?_
      show OwnG p e below s _ _ _ (s₁.setTop (mkF m 30 #[.val (.int mk), .val (.int tk), .val (.int ia), .val (.int ib), .val (.int sel), .val (.int mk), .val (.int ib), .unset, .unset, .unset, .unset, .unset, .unset] [(.int ia), (.int mk)]))
      obtain ⟨_, _, ⟨T18, L18, k18, n18⟩, -, X18, ⟨Lc18, hQ18, l18, y18, z18⟩, st18⟩ := Jvm.LawKit.callS X0 hx (y := (⟨"com/example/score_on_crawl/scoreoncrawl/engine/PageTreeBeforePinLaw", "rank", "(II)J"⟩ : MethodName)) hown (mvT hZ (hw _ (List.mem_of_getElem? (i := 0) rfl))) (mvT hZ (hw _ (List.mem_of_getElem? (i := 1) rfl))) (mvT hZ (hw _ (List.mem_of_getElem? (i := 2) rfl))) (mvT hZ (hw _ (List.mem_of_getElem? (i := 3) rfl))) (by decide) (backOf (W := 0) (rm1 l Z a0 hw [] mk ia h0 n0 Z0) hZ (hw _ (List.mem_of_getElem? (i := 3) rfl)) (hw _ (List.mem_of_getElem? (i := 2) rfl)) (by decide) (by decide)) (g := (mkF m 30 #[.val (.int mk), .val (.int tk), .val (.int ia), .val (.int ib), .val (.int sel), .val (.int mk), .val (.int ib), .unset, .unset, .unset, .unset, .unset, .unset] [(.int ia), (.int mk)])) rfl (by rw [hml]; rfl) (argsL := [(.int mk), (.int ia)]) (rest := []) (lenOf pd_0 rfl) rfl (by show 2 * 0 + _ ≤ _; exact Nat.le_of_eq rfl) (hb hby at_30) (fun _ _ => ⟨rfl, e0, (by decide : 0 + 0 ≤ _), (by decide : 0 + 0 ≤ _)⟩)
      dsimp only [Pt.U, Pt.locs, Pt.cells, Pt.slots] at X18 l18 y18 z18 st18 hQ18
      subst l18 y18 z18
      refine own_by (fun t kk_ => st18 _ kk_) ?_
      obtain ⟨rfl, N18q, hh18⟩ := hQ18
      have N18 := Fr.app N0 N18q
      have sz18 : n0 ≤ T18.heap.size := by rw [hh18]; exact Z0
      show OwnG p e below s _ _ _ (T18.setTop (mkF m 33 #[.val (.int mk), .val (.int tk), .val (.int ia), .val (.int ib), .val (.int sel), .val (.int mk), .val (.int ib), .unset, .unset, .unset, .unset, .unset, .unset] [(.long (own_rk mk ia))]))
      refine own_by (fun t kk_ => XS.lstore X18.here hx rfl (hb hby at_33) rfl (l' := #[.val (.int mk), .val (.int tk), .val (.int ia), .val (.int ib), .val (.int sel), .val (.int mk), .val (.int ib), .val (.long (own_rk mk ia)), .second, .unset, .unset, .unset, .unset]) rfl kk_) ?_
      show OwnG p e below s _ _ _ (T18.setTop (mkF m 35 #[.val (.int mk), .val (.int tk), .val (.int ia), .val (.int ib), .val (.int sel), .val (.int mk), .val (.int ib), .val (.long (own_rk mk ia)), .second, .unset, .unset, .unset, .unset] []))
      refine own_by (fun t kk_ => XS.iload X18.here hx rfl (hb hby at_35) rfl  kk_) ?_
      show OwnG p e below s _ _ _ (T18.setTop (mkF m 37 #[.val (.int mk), .val (.int tk), .val (.int ia), .val (.int ib), .val (.int sel), .val (.int mk), .val (.int ib), .val (.long (own_rk mk ia)), .second, .unset, .unset, .unset, .unset] [(.int mk)]))
      refine own_by (fun t kk_ => XS.iload X18.here hx rfl (hb hby at_37) rfl  kk_) ?_
      show OwnG p e below s _ _ _ (T18.setTop (mkF m 39 #[.val (.int mk), .val (.int tk), .val (.int ia), .val (.int ib), .val (.int sel), .val (.int mk), .val (.int ib), .val (.long (own_rk mk ia)), .second, .unset, .unset, .unset, .unset] [(.int ib), (.int mk)]))
      obtain ⟨_, _, ⟨T19, L19, k19, n19⟩, -, X19, ⟨Lc19, hQ19, l19, y19, z19⟩, st19⟩ := Jvm.LawKit.callS X18 hx (y := (⟨"com/example/score_on_crawl/scoreoncrawl/engine/PageTreeBeforePinLaw", "rank", "(II)J"⟩ : MethodName)) hown (mvT hZ (hw _ (List.mem_of_getElem? (i := 0) rfl))) (mvT hZ (hw _ (List.mem_of_getElem? (i := 1) rfl))) (mvT hZ (hw _ (List.mem_of_getElem? (i := 2) rfl))) (mvT hZ (hw _ (List.mem_of_getElem? (i := 3) rfl))) (by decide) (backOf (W := 0) (rm1 l Z a0 hw [] mk ib T18.heap n0 sz18) hZ (hw _ (List.mem_of_getElem? (i := 3) rfl)) (hw _ (List.mem_of_getElem? (i := 2) rfl)) (by decide) (by decide)) (g := (mkF m 39 #[.val (.int mk), .val (.int tk), .val (.int ia), .val (.int ib), .val (.int sel), .val (.int mk), .val (.int ib), .val (.long (own_rk mk ia)), .second, .unset, .unset, .unset, .unset] [(.int ib), (.int mk)])) rfl (by rw [hml]; rfl) (argsL := [(.int mk), (.int ib)]) (rest := []) (lenOf pd_0 rfl) rfl (by show 2 * 0 + _ ≤ _; exact Nat.le_of_eq rfl) (hb hby at_39) (fun _ _ => ⟨rfl, (rfl : T18.heap = T18.heap), (by decide : 0 + 0 ≤ _), (by decide : 0 + 0 ≤ _)⟩)
      dsimp only [Pt.U, Pt.locs, Pt.cells, Pt.slots] at X19 l19 y19 z19 st19 hQ19
      subst l19 y19 z19
      refine own_by (fun t kk_ => st19 _ kk_) ?_
      obtain ⟨rfl, N19q, hh19⟩ := hQ19
      have N19 := Fr.app N18 N19q
      have sz19 : n0 ≤ T19.heap.size := by rw [hh19]; exact sz18
      show OwnG p e below s _ _ _ (T19.setTop (mkF m 42 #[.val (.int mk), .val (.int tk), .val (.int ia), .val (.int ib), .val (.int sel), .val (.int mk), .val (.int ib), .val (.long (own_rk mk ia)), .second, .unset, .unset, .unset, .unset] [(.long (own_rk mk ib))]))
      refine own_by (fun t kk_ => XS.lstore X19.here hx rfl (hb hby at_42) rfl (l' := #[.val (.int mk), .val (.int tk), .val (.int ia), .val (.int ib), .val (.int sel), .val (.int mk), .val (.int ib), .val (.long (own_rk mk ia)), .second, .val (.long (own_rk mk ib)), .second, .unset, .unset]) rfl kk_) ?_
      show OwnG p e below s _ _ _ (T19.setTop (mkF m 44 #[.val (.int mk), .val (.int tk), .val (.int ia), .val (.int ib), .val (.int sel), .val (.int mk), .val (.int ib), .val (.long (own_rk mk ia)), .second, .val (.long (own_rk mk ib)), .second, .unset, .unset] []))
      refine own_by (fun t kk_ => XS.iloadN X19.here hx rfl (hb hby at_44) rfl  kk_) ?_
      show OwnG p e below s _ _ _ (T19.setTop (mkF m 45 #[.val (.int mk), .val (.int tk), .val (.int ia), .val (.int ib), .val (.int sel), .val (.int mk), .val (.int ib), .val (.long (own_rk mk ia)), .second, .val (.long (own_rk mk ib)), .second, .unset, .unset] [(.int mk)]))
      refine own_by (fun t kk_ => XS.i2dS X19.here hx rfl (hb hby at_45) rfl rfl kk_) ?_
      show OwnG p e below s _ _ _ (T19.setTop (mkF m 46 #[.val (.int mk), .val (.int tk), .val (.int ia), .val (.int ib), .val (.int sel), .val (.int mk), .val (.int ib), .val (.long (own_rk mk ia)), .second, .val (.long (own_rk mk ib)), .second, .unset, .unset] [(.double (FP.i2d mk))]))
      refine own_by (fun t kk_ => XS.iloadN X19.here hx rfl (hb hby at_46) rfl  kk_) ?_
      show OwnG p e below s _ _ _ (T19.setTop (mkF m 47 #[.val (.int mk), .val (.int tk), .val (.int ia), .val (.int ib), .val (.int sel), .val (.int mk), .val (.int ib), .val (.long (own_rk mk ia)), .second, .val (.long (own_rk mk ib)), .second, .unset, .unset] [(.int ia), (.double (FP.i2d mk))]))
      refine own_by (fun t kk_ => XS.iload X19.here hx rfl (hb hby at_47) rfl  kk_) ?_
      show OwnG p e below s _ _ _ (T19.setTop (mkF m 49 #[.val (.int mk), .val (.int tk), .val (.int ia), .val (.int ib), .val (.int sel), .val (.int mk), .val (.int ib), .val (.long (own_rk mk ia)), .second, .val (.long (own_rk mk ib)), .second, .unset, .unset] [(.int mk), (.int ia), (.double (FP.i2d mk))]))
      refine own_by (fun t kk_ => XS.i2dS X19.here hx rfl (hb hby at_49) rfl rfl kk_) ?_
      show OwnG p e below s _ _ _ (T19.setTop (mkF m 50 #[.val (.int mk), .val (.int tk), .val (.int ia), .val (.int ib), .val (.int sel), .val (.int mk), .val (.int ib), .val (.long (own_rk mk ia)), .second, .val (.long (own_rk mk ib)), .second, .unset, .unset] [(.double (FP.i2d mk)), (.int ia), (.double (FP.i2d mk))]))
      refine own_by (fun t kk_ => XS.iload X19.here hx rfl (hb hby at_50) rfl  kk_) ?_
      show OwnG p e below s _ _ _ (T19.setTop (mkF m 52 #[.val (.int mk), .val (.int tk), .val (.int ia), .val (.int ib), .val (.int sel), .val (.int mk), .val (.int ib), .val (.long (own_rk mk ia)), .second, .val (.long (own_rk mk ib)), .second, .unset, .unset] [(.int ib), (.double (FP.i2d mk)), (.int ia), (.double (FP.i2d mk))]))
      obtain ⟨_, _, ⟨T20, L20, k20, n20⟩, -, X20, ⟨Lc20, hQ20, l20, y20, z20⟩, st20⟩ := Jvm.LawKit.callS X19 hx (y := (⟨"com/example/score_on_crawl/scoreoncrawl/engine/PageTree", "before", "(DIDI)Z"⟩ : MethodName)) hown (mvT hZ (hw _ (List.mem_of_getElem? (i := 5) rfl))) (mvT hZ (hw _ (List.mem_of_getElem? (i := 6) rfl))) (mvT hZ (hw _ (List.mem_of_getElem? (i := 7) rfl))) (mvT hZ (hw _ (List.mem_of_getElem? (i := 8) rfl))) (by decide) (backOf (W := 0) (rm2 l Z a0 hw [] mk ia mk ib T19.heap n0 sz19) hZ (hw _ (List.mem_of_getElem? (i := 8) rfl)) (hw _ (List.mem_of_getElem? (i := 7) rfl)) (by decide) (by decide)) (g := (mkF m 52 #[.val (.int mk), .val (.int tk), .val (.int ia), .val (.int ib), .val (.int sel), .val (.int mk), .val (.int ib), .val (.long (own_rk mk ia)), .second, .val (.long (own_rk mk ib)), .second, .unset, .unset] [(.int ib), (.double (FP.i2d mk)), (.int ia), (.double (FP.i2d mk))])) rfl (by rw [hml]; rfl) (argsL := [(.double (FP.i2d mk)), (.int ia), (.double (FP.i2d mk)), (.int ib)]) (rest := []) (lenOf pd_1 rfl) rfl (by show 2 * 0 + _ ≤ _; exact Nat.le_of_eq rfl) (hb hby at_52) (fun _ _ => ⟨rfl, (rfl : T19.heap = T19.heap), (by decide : 0 + 0 ≤ _), (by decide : 0 + 0 ≤ _)⟩)
      dsimp only [Pt.U, Pt.locs, Pt.cells, Pt.slots] at X20 l20 y20 z20 st20 hQ20
      subst l20 y20 z20
      refine own_by (fun t kk_ => st20 _ kk_) ?_
      obtain ⟨rfl, N20q, hh20⟩ := hQ20
      have N20 := Fr.app N19 N20q
      have sz20 : n0 ≤ T20.heap.size := by rw [hh20]; exact sz19
      show OwnG p e below s _ _ _ (T20.setTop (mkF m 55 #[.val (.int mk), .val (.int tk), .val (.int ia), .val (.int ib), .val (.int sel), .val (.int mk), .val (.int ib), .val (.long (own_rk mk ia)), .second, .val (.long (own_rk mk ib)), .second, .unset, .unset] [(.int (own_bf mk ia mk ib))]))
      refine own_by (fun t kk_ => XS.istore X20.here hx rfl (hb hby at_55) rfl (l' := #[.val (.int mk), .val (.int tk), .val (.int ia), .val (.int ib), .val (.int sel), .val (.int mk), .val (.int ib), .val (.long (own_rk mk ia)), .second, .val (.long (own_rk mk ib)), .second, .val (.int (own_bf mk ia mk ib)), .unset]) rfl kk_) ?_
      show OwnG p e below s _ _ _ (T20.setTop (mkF m 57 #[.val (.int mk), .val (.int tk), .val (.int ia), .val (.int ib), .val (.int sel), .val (.int mk), .val (.int ib), .val (.long (own_rk mk ia)), .second, .val (.long (own_rk mk ib)), .second, .val (.int (own_bf mk ia mk ib)), .unset] []))
      refine own_by (fun t kk_ => XS.iload X20.here hx rfl (hb hby at_57) rfl  kk_) ?_
      show OwnG p e below s _ _ _ (T20.setTop (mkF m 59 #[.val (.int mk), .val (.int tk), .val (.int ia), .val (.int ib), .val (.int sel), .val (.int mk), .val (.int ib), .val (.long (own_rk mk ia)), .second, .val (.long (own_rk mk ib)), .second, .val (.int (own_bf mk ia mk ib)), .unset] [(.int mk)]))
      refine own_by (fun t kk_ => XS.i2dS X20.here hx rfl (hb hby at_59) rfl rfl kk_) ?_
      show OwnG p e below s _ _ _ (T20.setTop (mkF m 60 #[.val (.int mk), .val (.int tk), .val (.int ia), .val (.int ib), .val (.int sel), .val (.int mk), .val (.int ib), .val (.long (own_rk mk ia)), .second, .val (.long (own_rk mk ib)), .second, .val (.int (own_bf mk ia mk ib)), .unset] [(.double (FP.i2d mk))]))
      refine own_by (fun t kk_ => XS.iload X20.here hx rfl (hb hby at_60) rfl  kk_) ?_
      show OwnG p e below s _ _ _ (T20.setTop (mkF m 62 #[.val (.int mk), .val (.int tk), .val (.int ia), .val (.int ib), .val (.int sel), .val (.int mk), .val (.int ib), .val (.long (own_rk mk ia)), .second, .val (.long (own_rk mk ib)), .second, .val (.int (own_bf mk ia mk ib)), .unset] [(.int ib), (.double (FP.i2d mk))]))
      refine own_by (fun t kk_ => XS.iloadN X20.here hx rfl (hb hby at_62) rfl  kk_) ?_
      show OwnG p e below s _ _ _ (T20.setTop (mkF m 63 #[.val (.int mk), .val (.int tk), .val (.int ia), .val (.int ib), .val (.int sel), .val (.int mk), .val (.int ib), .val (.long (own_rk mk ia)), .second, .val (.long (own_rk mk ib)), .second, .val (.int (own_bf mk ia mk ib)), .unset] [(.int mk), (.int ib), (.double (FP.i2d mk))]))
      refine own_by (fun t kk_ => XS.i2dS X20.here hx rfl (hb hby at_63) rfl rfl kk_) ?_
      show OwnG p e below s _ _ _ (T20.setTop (mkF m 64 #[.val (.int mk), .val (.int tk), .val (.int ia), .val (.int ib), .val (.int sel), .val (.int mk), .val (.int ib), .val (.long (own_rk mk ia)), .second, .val (.long (own_rk mk ib)), .second, .val (.int (own_bf mk ia mk ib)), .unset] [(.double (FP.i2d mk)), (.int ib), (.double (FP.i2d mk))]))
      refine own_by (fun t kk_ => XS.iloadN X20.here hx rfl (hb hby at_64) rfl  kk_) ?_
      show OwnG p e below s _ _ _ (T20.setTop (mkF m 65 #[.val (.int mk), .val (.int tk), .val (.int ia), .val (.int ib), .val (.int sel), .val (.int mk), .val (.int ib), .val (.long (own_rk mk ia)), .second, .val (.long (own_rk mk ib)), .second, .val (.int (own_bf mk ia mk ib)), .unset] [(.int ia), (.double (FP.i2d mk)), (.int ib), (.double (FP.i2d mk))]))
      obtain ⟨_, _, ⟨T21, L21, k21, n21⟩, -, X21, ⟨Lc21, hQ21, l21, y21, z21⟩, st21⟩ := Jvm.LawKit.callS X20 hx (y := (⟨"com/example/score_on_crawl/scoreoncrawl/engine/PageTree", "before", "(DIDI)Z"⟩ : MethodName)) hown (mvT hZ (hw _ (List.mem_of_getElem? (i := 5) rfl))) (mvT hZ (hw _ (List.mem_of_getElem? (i := 6) rfl))) (mvT hZ (hw _ (List.mem_of_getElem? (i := 7) rfl))) (mvT hZ (hw _ (List.mem_of_getElem? (i := 8) rfl))) (by decide) (backOf (W := 0) (rm2 l Z a0 hw [] mk ib mk ia T20.heap n0 sz20) hZ (hw _ (List.mem_of_getElem? (i := 8) rfl)) (hw _ (List.mem_of_getElem? (i := 7) rfl)) (by decide) (by decide)) (g := (mkF m 65 #[.val (.int mk), .val (.int tk), .val (.int ia), .val (.int ib), .val (.int sel), .val (.int mk), .val (.int ib), .val (.long (own_rk mk ia)), .second, .val (.long (own_rk mk ib)), .second, .val (.int (own_bf mk ia mk ib)), .unset] [(.int ia), (.double (FP.i2d mk)), (.int ib), (.double (FP.i2d mk))])) rfl (by rw [hml]; rfl) (argsL := [(.double (FP.i2d mk)), (.int ib), (.double (FP.i2d mk)), (.int ia)]) (rest := []) (lenOf pd_1 rfl) rfl (by show 2 * 0 + _ ≤ _; exact Nat.le_of_eq rfl) (hb hby at_65) (fun _ _ => ⟨rfl, (rfl : T20.heap = T20.heap), (by decide : 0 + 0 ≤ _), (by decide : 0 + 0 ≤ _)⟩)
      dsimp only [Pt.U, Pt.locs, Pt.cells, Pt.slots] at X21 l21 y21 z21 st21 hQ21
      subst l21 y21 z21
      refine own_by (fun t kk_ => st21 _ kk_) ?_
      obtain ⟨rfl, N21q, hh21⟩ := hQ21
      have N21 := Fr.app N20 N21q
      have sz21 : n0 ≤ T21.heap.size := by rw [hh21]; exact sz20
      show OwnG p e below s _ _ _ (T21.setTop (mkF m 68 #[.val (.int mk), .val (.int tk), .val (.int ia), .val (.int ib), .val (.int sel), .val (.int mk), .val (.int ib), .val (.long (own_rk mk ia)), .second, .val (.long (own_rk mk ib)), .second, .val (.int (own_bf mk ia mk ib)), .unset] [(.int (own_bf mk ib mk ia))]))
      refine own_by (fun t kk_ => XS.istore X21.here hx rfl (hb hby at_68) rfl (l' := #[.val (.int mk), .val (.int tk), .val (.int ia), .val (.int ib), .val (.int sel), .val (.int mk), .val (.int ib), .val (.long (own_rk mk ia)), .second, .val (.long (own_rk mk ib)), .second, .val (.int (own_bf mk ia mk ib)), .val (.int (own_bf mk ib mk ia))]) rfl kk_) ?_
      show OwnG p e below s _ _ _ (T21.setTop (mkF m 70 #[.val (.int mk), .val (.int tk), .val (.int ia), .val (.int ib), .val (.int sel), .val (.int mk), .val (.int ib), .val (.long (own_rk mk ia)), .second, .val (.long (own_rk mk ib)), .second, .val (.int (own_bf mk ia mk ib)), .val (.int (own_bf mk ib mk ia))] []))
      refine own_by (fun t kk_ => XS.iload X21.here hx rfl (hb hby at_70) rfl  kk_) ?_
      show OwnG p e below s _ _ _ (T21.setTop (mkF m 72 #[.val (.int mk), .val (.int tk), .val (.int ia), .val (.int ib), .val (.int sel), .val (.int mk), .val (.int ib), .val (.long (own_rk mk ia)), .second, .val (.long (own_rk mk ib)), .second, .val (.int (own_bf mk ia mk ib)), .val (.int (own_bf mk ib mk ia))] [(.int (own_bf mk ia mk ib))]))
      refine own_by (fun t kk_ => XS.lload X21.here hx rfl (hb hby at_72) rfl  kk_) ?_
      show OwnG p e below s _ _ _ (T21.setTop (mkF m 74 #[.val (.int mk), .val (.int tk), .val (.int ia), .val (.int ib), .val (.int sel), .val (.int mk), .val (.int ib), .val (.long (own_rk mk ia)), .second, .val (.long (own_rk mk ib)), .second, .val (.int (own_bf mk ia mk ib)), .val (.int (own_bf mk ib mk ia))] [(.long (own_rk mk ia)), (.int (own_bf mk ia mk ib))]))
      refine own_by (fun t kk_ => XS.lload X21.here hx rfl (hb hby at_74) rfl  kk_) ?_
      show OwnG p e below s _ _ _ (T21.setTop (mkF m 76 #[.val (.int mk), .val (.int tk), .val (.int ia), .val (.int ib), .val (.int sel), .val (.int mk), .val (.int ib), .val (.long (own_rk mk ia)), .second, .val (.long (own_rk mk ib)), .second, .val (.int (own_bf mk ia mk ib)), .val (.int (own_bf mk ib mk ia))] [(.long (own_rk mk ib)), (.long (own_rk mk ia)), (.int (own_bf mk ia mk ib))]))
      refine own_by (fun t kk_ => XS.lcmp X21.here hx rfl (hb hby at_76) rfl kk_) ?_
      show OwnG p e below s _ _ _ (T21.setTop (mkF m 77 #[.val (.int mk), .val (.int tk), .val (.int ia), .val (.int ib), .val (.int sel), .val (.int mk), .val (.int ib), .val (.long (own_rk mk ia)), .second, .val (.long (own_rk mk ib)), .second, .val (.int (own_bf mk ia mk ib)), .val (.int (own_bf mk ib mk ia))] [(.int (lcmpW (own_rk mk ia) (own_rk mk ib))), (.int (own_bf mk ia mk ib))]))
      by_cases hb77_22 : (own_rk mk ib) < (own_rk mk ia)
      · refine own_by (fun t kk_ => XS.ifNo X21.here hx rfl (hb hby at_77) rfl ((if0 _ _).trans (tlt ((lw_gt _ _).mpr hb77_22)).2.2.2) kk_) ?_
        show OwnG p e below s _ _ _ (T21.setTop (mkF m 80 #[.val (.int mk), .val (.int tk), .val (.int ia), .val (.int ib), .val (.int sel), .val (.int mk), .val (.int ib), .val (.long (own_rk mk ia)), .second, .val (.long (own_rk mk ib)), .second, .val (.int (own_bf mk ia mk ib)), .val (.int (own_bf mk ib mk ia))] [(.int (own_bf mk ia mk ib))]))
        refine own_by (fun t kk_ => XS.iconst X21.here hx rfl (hb hby at_80) kk_) ?_
        show OwnG p e below s _ _ _ (T21.setTop (mkF m 81 #[.val (.int mk), .val (.int tk), .val (.int ia), .val (.int ib), .val (.int sel), .val (.int mk), .val (.int ib), .val (.long (own_rk mk ia)), .second, .val (.long (own_rk mk ib)), .second, .val (.int (own_bf mk ia mk ib)), .val (.int (own_bf mk ib mk ia))] [(.int (1 : Int32)), (.int (own_bf mk ia mk ib))]))
        refine own_by (fun t kk_ => XS.goto X21.here hx rfl (pc0 := 81) (pc' := 85) rfl (hb hby at_81) (by decide) (by decide) kk_) ?_
        show OwnG p e below s _ _ _ (T21.setTop (mkF m 85 #[.val (.int mk), .val (.int tk), .val (.int ia), .val (.int ib), .val (.int sel), .val (.int mk), .val (.int ib), .val (.long (own_rk mk ia)), .second, .val (.long (own_rk mk ib)), .second, .val (.int (own_bf mk ia mk ib)), .val (.int (own_bf mk ib mk ia))] [(.int (1 : Int32)), (.int (own_bf mk ia mk ib))]))
        refine own_by (fun t kk_ => XS.icmpNo X21.here hx rfl (hb hby at_85) rfl (teq (own_T hb77_22)).2 kk_) ?_
        show OwnG p e below s _ _ _ (T21.setTop (mkF m 88 #[.val (.int mk), .val (.int tk), .val (.int ia), .val (.int ib), .val (.int sel), .val (.int mk), .val (.int ib), .val (.long (own_rk mk ia)), .second, .val (.long (own_rk mk ib)), .second, .val (.int (own_bf mk ia mk ib)), .val (.int (own_bf mk ib mk ia))] []))
        refine own_by (fun t kk_ => XS.iload X21.here hx rfl (hb hby at_88) rfl  kk_) ?_
        show OwnG p e below s _ _ _ (T21.setTop (mkF m 90 #[.val (.int mk), .val (.int tk), .val (.int ia), .val (.int ib), .val (.int sel), .val (.int mk), .val (.int ib), .val (.long (own_rk mk ia)), .second, .val (.long (own_rk mk ib)), .second, .val (.int (own_bf mk ia mk ib)), .val (.int (own_bf mk ib mk ia))] [(.int (own_bf mk ib mk ia))]))
        refine own_by (fun t kk_ => XS.lload X21.here hx rfl (hb hby at_90) rfl  kk_) ?_
        show OwnG p e below s _ _ _ (T21.setTop (mkF m 92 #[.val (.int mk), .val (.int tk), .val (.int ia), .val (.int ib), .val (.int sel), .val (.int mk), .val (.int ib), .val (.long (own_rk mk ia)), .second, .val (.long (own_rk mk ib)), .second, .val (.int (own_bf mk ia mk ib)), .val (.int (own_bf mk ib mk ia))] [(.long (own_rk mk ib)), (.int (own_bf mk ib mk ia))]))
        refine own_by (fun t kk_ => XS.lload X21.here hx rfl (hb hby at_92) rfl  kk_) ?_
        show OwnG p e below s _ _ _ (T21.setTop (mkF m 94 #[.val (.int mk), .val (.int tk), .val (.int ia), .val (.int ib), .val (.int sel), .val (.int mk), .val (.int ib), .val (.long (own_rk mk ia)), .second, .val (.long (own_rk mk ib)), .second, .val (.int (own_bf mk ia mk ib)), .val (.int (own_bf mk ib mk ia))] [(.long (own_rk mk ia)), (.long (own_rk mk ib)), (.int (own_bf mk ib mk ia))]))
        refine own_by (fun t kk_ => XS.lcmp X21.here hx rfl (hb hby at_94) rfl kk_) ?_
        show OwnG p e below s _ _ _ (T21.setTop (mkF m 95 #[.val (.int mk), .val (.int tk), .val (.int ia), .val (.int ib), .val (.int sel), .val (.int mk), .val (.int ib), .val (.long (own_rk mk ia)), .second, .val (.long (own_rk mk ib)), .second, .val (.int (own_bf mk ia mk ib)), .val (.int (own_bf mk ib mk ia))] [(.int (lcmpW (own_rk mk ib) (own_rk mk ia))), (.int (own_bf mk ib mk ia))]))
        by_cases hb95_23 : (own_rk mk ia) < (own_rk mk ib)
        · refine own_by (fun t kk_ => XS.ifNo X21.here hx rfl (hb hby at_95) rfl ((if0 _ _).trans (tlt ((lw_gt _ _).mpr hb95_23)).2.2.2) kk_) ?_
          show OwnG p e below s _ _ _ (T21.setTop (mkF m 98 #[.val (.int mk), .val (.int tk), .val (.int ia), .val (.int ib), .val (.int sel), .val (.int mk), .val (.int ib), .val (.long (own_rk mk ia)), .second, .val (.long (own_rk mk ib)), .second, .val (.int (own_bf mk ia mk ib)), .val (.int (own_bf mk ib mk ia))] [(.int (own_bf mk ib mk ia))]))
          refine own_by (fun t kk_ => XS.iconst X21.here hx rfl (hb hby at_98) kk_) ?_
          show OwnG p e below s _ _ _ (T21.setTop (mkF m 99 #[.val (.int mk), .val (.int tk), .val (.int ia), .val (.int ib), .val (.int sel), .val (.int mk), .val (.int ib), .val (.long (own_rk mk ia)), .second, .val (.long (own_rk mk ib)), .second, .val (.int (own_bf mk ia mk ib)), .val (.int (own_bf mk ib mk ia))] [(.int (1 : Int32)), (.int (own_bf mk ib mk ia))]))
          refine own_by (fun t kk_ => XS.goto X21.here hx rfl (pc0 := 99) (pc' := 103) rfl (hb hby at_99) (by decide) (by decide) kk_) ?_
          show OwnG p e below s _ _ _ (T21.setTop (mkF m 103 #[.val (.int mk), .val (.int tk), .val (.int ia), .val (.int ib), .val (.int sel), .val (.int mk), .val (.int ib), .val (.long (own_rk mk ia)), .second, .val (.long (own_rk mk ib)), .second, .val (.int (own_bf mk ia mk ib)), .val (.int (own_bf mk ib mk ia))] [(.int (1 : Int32)), (.int (own_bf mk ib mk ia))]))
          refine own_by (fun t kk_ => XS.icmpNo X21.here hx rfl (hb hby at_103) rfl (teq (own_T hb95_23)).2 kk_) ?_
          show OwnG p e below s _ _ _ (T21.setTop (mkF m 106 #[.val (.int mk), .val (.int tk), .val (.int ia), .val (.int ib), .val (.int sel), .val (.int mk), .val (.int ib), .val (.long (own_rk mk ia)), .second, .val (.long (own_rk mk ib)), .second, .val (.int (own_bf mk ia mk ib)), .val (.int (own_bf mk ib mk ia))] []))
          refine own_by (fun t kk_ => XS.iconst X21.here hx rfl (hb hby at_106) kk_) ?_
          show OwnG p e below s _ _ _ (T21.setTop (mkF m 107 #[.val (.int mk), .val (.int tk), .val (.int ia), .val (.int ib), .val (.int sel), .val (.int mk), .val (.int ib), .val (.long (own_rk mk ia)), .second, .val (.long (own_rk mk ib)), .second, .val (.int (own_bf mk ia mk ib)), .val (.int (own_bf mk ib mk ia))] [(.int (1 : Int32))]))
          refine own_by (fun t kk_ => XS.goto X21.here hx rfl (pc0 := 107) (pc' := 111) rfl (hb hby at_107) (by decide) (by decide) kk_) ?_
          show OwnG p e below s _ _ _ (T21.setTop (mkF m 111 #[.val (.int mk), .val (.int tk), .val (.int ia), .val (.int ib), .val (.int sel), .val (.int mk), .val (.int ib), .val (.long (own_rk mk ia)), .second, .val (.long (own_rk mk ib)), .second, .val (.int (own_bf mk ia mk ib)), .val (.int (own_bf mk ib mk ia))] [(.int (1 : Int32))]))
          exact own_outN X21 hx hret (by simp) hlk (hb hby at_111) rfl (⟨rfl, N21⟩) (by decide) (by decide)
        · refine own_by (fun t kk_ => XS.ifYes X21.here hx rfl (pc0 := 95) (pc' := 102) rfl (hb hby at_95) rfl ((if0 _ _).trans (flt (fun q => hb95_23 ((lw_gt _ _).mp q))).2.2.2) (by decide) (by decide) kk_) ?_
          show OwnG p e below s _ _ _ (T21.setTop (mkF m 102 #[.val (.int mk), .val (.int tk), .val (.int ia), .val (.int ib), .val (.int sel), .val (.int mk), .val (.int ib), .val (.long (own_rk mk ia)), .second, .val (.long (own_rk mk ib)), .second, .val (.int (own_bf mk ia mk ib)), .val (.int (own_bf mk ib mk ia))] [(.int (own_bf mk ib mk ia))]))
          refine own_by (fun t kk_ => XS.iconst X21.here hx rfl (hb hby at_102) kk_) ?_
          show OwnG p e below s _ _ _ (T21.setTop (mkF m 103 #[.val (.int mk), .val (.int tk), .val (.int ia), .val (.int ib), .val (.int sel), .val (.int mk), .val (.int ib), .val (.long (own_rk mk ia)), .second, .val (.long (own_rk mk ib)), .second, .val (.int (own_bf mk ia mk ib)), .val (.int (own_bf mk ib mk ia))] [(.int (0 : Int32)), (.int (own_bf mk ib mk ia))]))
          refine own_by (fun t kk_ => XS.icmpNo X21.here hx rfl (hb hby at_103) rfl (teq (own_F hb95_23)).2 kk_) ?_
          show OwnG p e below s _ _ _ (T21.setTop (mkF m 106 #[.val (.int mk), .val (.int tk), .val (.int ia), .val (.int ib), .val (.int sel), .val (.int mk), .val (.int ib), .val (.long (own_rk mk ia)), .second, .val (.long (own_rk mk ib)), .second, .val (.int (own_bf mk ia mk ib)), .val (.int (own_bf mk ib mk ia))] []))
          refine own_by (fun t kk_ => XS.iconst X21.here hx rfl (hb hby at_106) kk_) ?_
          show OwnG p e below s _ _ _ (T21.setTop (mkF m 107 #[.val (.int mk), .val (.int tk), .val (.int ia), .val (.int ib), .val (.int sel), .val (.int mk), .val (.int ib), .val (.long (own_rk mk ia)), .second, .val (.long (own_rk mk ib)), .second, .val (.int (own_bf mk ia mk ib)), .val (.int (own_bf mk ib mk ia))] [(.int (1 : Int32))]))
          refine own_by (fun t kk_ => XS.goto X21.here hx rfl (pc0 := 107) (pc' := 111) rfl (hb hby at_107) (by decide) (by decide) kk_) ?_
          show OwnG p e below s _ _ _ (T21.setTop (mkF m 111 #[.val (.int mk), .val (.int tk), .val (.int ia), .val (.int ib), .val (.int sel), .val (.int mk), .val (.int ib), .val (.long (own_rk mk ia)), .second, .val (.long (own_rk mk ib)), .second, .val (.int (own_bf mk ia mk ib)), .val (.int (own_bf mk ib mk ia))] [(.int (1 : Int32))]))
          exact own_outN X21 hx hret (by simp) hlk (hb hby at_111) rfl (⟨rfl, N21⟩) (by decide) (by decide)
      · refine own_by (fun t kk_ => XS.ifYes X21.here hx rfl (pc0 := 77) (pc' := 84) rfl (hb hby at_77) rfl ((if0 _ _).trans (flt (fun q => hb77_22 ((lw_gt _ _).mp q))).2.2.2) (by decide) (by decide) kk_) ?_
        show OwnG p e below s _ _ _ (T21.setTop (mkF m 84 #[.val (.int mk), .val (.int tk), .val (.int ia), .val (.int ib), .val (.int sel), .val (.int mk), .val (.int ib), .val (.long (own_rk mk ia)), .second, .val (.long (own_rk mk ib)), .second, .val (.int (own_bf mk ia mk ib)), .val (.int (own_bf mk ib mk ia))] [(.int (own_bf mk ia mk ib))]))
        refine own_by (fun t kk_ => XS.iconst X21.here hx rfl (hb hby at_84) kk_) ?_
        show OwnG p e below s _ _ _ (T21.setTop (mkF m 85 #[.val (.int mk), .val (.int tk), .val (.int ia), .val (.int ib), .val (.int sel), .val (.int mk), .val (.int ib), .val (.long (own_rk mk ia)), .second, .val (.long (own_rk mk ib)), .second, .val (.int (own_bf mk ia mk ib)), .val (.int (own_bf mk ib mk ia))] [(.int (0 : Int32)), (.int (own_bf mk ia mk ib))]))
        refine own_by (fun t kk_ => XS.icmpNo X21.here hx rfl (hb hby at_85) rfl (teq (own_F hb77_22)).2 kk_) ?_
        show OwnG p e below s _ _ _ (T21.setTop (mkF m 88 #[.val (.int mk), .val (.int tk), .val (.int ia), .val (.int ib), .val (.int sel), .val (.int mk), .val (.int ib), .val (.long (own_rk mk ia)), .second, .val (.long (own_rk mk ib)), .second, .val (.int (own_bf mk ia mk ib)), .val (.int (own_bf mk ib mk ia))] []))
        refine own_by (fun t kk_ => XS.iload X21.here hx rfl (hb hby at_88) rfl  kk_) ?_
        show OwnG p e below s _ _ _ (T21.setTop (mkF m 90 #[.val (.int mk), .val (.int tk), .val (.int ia), .val (.int ib), .val (.int sel), .val (.int mk), .val (.int ib), .val (.long (own_rk mk ia)), .second, .val (.long (own_rk mk ib)), .second, .val (.int (own_bf mk ia mk ib)), .val (.int (own_bf mk ib mk ia))] [(.int (own_bf mk ib mk ia))]))
        refine own_by (fun t kk_ => XS.lload X21.here hx rfl (hb hby at_90) rfl  kk_) ?_
        show OwnG p e below s _ _ _ (T21.setTop (mkF m 92 #[.val (.int mk), .val (.int tk), .val (.int ia), .val (.int ib), .val (.int sel), .val (.int mk), .val (.int ib), .val (.long (own_rk mk ia)), .second, .val (.long (own_rk mk ib)), .second, .val (.int (own_bf mk ia mk ib)), .val (.int (own_bf mk ib mk ia))] [(.long (own_rk mk ib)), (.int (own_bf mk ib mk ia))]))
        refine own_by (fun t kk_ => XS.lload X21.here hx rfl (hb hby at_92) rfl  kk_) ?_
        show OwnG p e below s _ _ _ (T21.setTop (mkF m 94 #[.val (.int mk), .val (.int tk), .val (.int ia), .val (.int ib), .val (.int sel), .val (.int mk), .val (.int ib), .val (.long (own_rk mk ia)), .second, .val (.long (own_rk mk ib)), .second, .val (.int (own_bf mk ia mk ib)), .val (.int (own_bf mk ib mk ia))] [(.long (own_rk mk ia)), (.long (own_rk mk ib)), (.int (own_bf mk ib mk ia))]))
        refine own_by (fun t kk_ => XS.lcmp X21.here hx rfl (hb hby at_94) rfl kk_) ?_
        show OwnG p e below s _ _ _ (T21.setTop (mkF m 95 #[.val (.int mk), .val (.int tk), .val (.int ia), .val (.int ib), .val (.int sel), .val (.int mk), .val (.int ib), .val (.long (own_rk mk ia)), .second, .val (.long (own_rk mk ib)), .second, .val (.int (own_bf mk ia mk ib)), .val (.int (own_bf mk ib mk ia))] [(.int (lcmpW (own_rk mk ib) (own_rk mk ia))), (.int (own_bf mk ib mk ia))]))
        by_cases hb95_24 : (own_rk mk ia) < (own_rk mk ib)
        · refine own_by (fun t kk_ => XS.ifNo X21.here hx rfl (hb hby at_95) rfl ((if0 _ _).trans (tlt ((lw_gt _ _).mpr hb95_24)).2.2.2) kk_) ?_
          show OwnG p e below s _ _ _ (T21.setTop (mkF m 98 #[.val (.int mk), .val (.int tk), .val (.int ia), .val (.int ib), .val (.int sel), .val (.int mk), .val (.int ib), .val (.long (own_rk mk ia)), .second, .val (.long (own_rk mk ib)), .second, .val (.int (own_bf mk ia mk ib)), .val (.int (own_bf mk ib mk ia))] [(.int (own_bf mk ib mk ia))]))
          refine own_by (fun t kk_ => XS.iconst X21.here hx rfl (hb hby at_98) kk_) ?_
          show OwnG p e below s _ _ _ (T21.setTop (mkF m 99 #[.val (.int mk), .val (.int tk), .val (.int ia), .val (.int ib), .val (.int sel), .val (.int mk), .val (.int ib), .val (.long (own_rk mk ia)), .second, .val (.long (own_rk mk ib)), .second, .val (.int (own_bf mk ia mk ib)), .val (.int (own_bf mk ib mk ia))] [(.int (1 : Int32)), (.int (own_bf mk ib mk ia))]))
          refine own_by (fun t kk_ => XS.goto X21.here hx rfl (pc0 := 99) (pc' := 103) rfl (hb hby at_99) (by decide) (by decide) kk_) ?_
          show OwnG p e below s _ _ _ (T21.setTop (mkF m 103 #[.val (.int mk), .val (.int tk), .val (.int ia), .val (.int ib), .val (.int sel), .val (.int mk), .val (.int ib), .val (.long (own_rk mk ia)), .second, .val (.long (own_rk mk ib)), .second, .val (.int (own_bf mk ia mk ib)), .val (.int (own_bf mk ib mk ia))] [(.int (1 : Int32)), (.int (own_bf mk ib mk ia))]))
          refine own_by (fun t kk_ => XS.icmpNo X21.here hx rfl (hb hby at_103) rfl (teq (own_T hb95_24)).2 kk_) ?_
          show OwnG p e below s _ _ _ (T21.setTop (mkF m 106 #[.val (.int mk), .val (.int tk), .val (.int ia), .val (.int ib), .val (.int sel), .val (.int mk), .val (.int ib), .val (.long (own_rk mk ia)), .second, .val (.long (own_rk mk ib)), .second, .val (.int (own_bf mk ia mk ib)), .val (.int (own_bf mk ib mk ia))] []))
          refine own_by (fun t kk_ => XS.iconst X21.here hx rfl (hb hby at_106) kk_) ?_
          show OwnG p e below s _ _ _ (T21.setTop (mkF m 107 #[.val (.int mk), .val (.int tk), .val (.int ia), .val (.int ib), .val (.int sel), .val (.int mk), .val (.int ib), .val (.long (own_rk mk ia)), .second, .val (.long (own_rk mk ib)), .second, .val (.int (own_bf mk ia mk ib)), .val (.int (own_bf mk ib mk ia))] [(.int (1 : Int32))]))
          refine own_by (fun t kk_ => XS.goto X21.here hx rfl (pc0 := 107) (pc' := 111) rfl (hb hby at_107) (by decide) (by decide) kk_) ?_
          show OwnG p e below s _ _ _ (T21.setTop (mkF m 111 #[.val (.int mk), .val (.int tk), .val (.int ia), .val (.int ib), .val (.int sel), .val (.int mk), .val (.int ib), .val (.long (own_rk mk ia)), .second, .val (.long (own_rk mk ib)), .second, .val (.int (own_bf mk ia mk ib)), .val (.int (own_bf mk ib mk ia))] [(.int (1 : Int32))]))
          exact own_outN X21 hx hret (by simp) hlk (hb hby at_111) rfl (⟨rfl, N21⟩) (by decide) (by decide)
        · refine own_by (fun t kk_ => XS.ifYes X21.here hx rfl (pc0 := 95) (pc' := 102) rfl (hb hby at_95) rfl ((if0 _ _).trans (flt (fun q => hb95_24 ((lw_gt _ _).mp q))).2.2.2) (by decide) (by decide) kk_) ?_
          show OwnG p e below s _ _ _ (T21.setTop (mkF m 102 #[.val (.int mk), .val (.int tk), .val (.int ia), .val (.int ib), .val (.int sel), .val (.int mk), .val (.int ib), .val (.long (own_rk mk ia)), .second, .val (.long (own_rk mk ib)), .second, .val (.int (own_bf mk ia mk ib)), .val (.int (own_bf mk ib mk ia))] [(.int (own_bf mk ib mk ia))]))
          refine own_by (fun t kk_ => XS.iconst X21.here hx rfl (hb hby at_102) kk_) ?_
          show OwnG p e below s _ _ _ (T21.setTop (mkF m 103 #[.val (.int mk), .val (.int tk), .val (.int ia), .val (.int ib), .val (.int sel), .val (.int mk), .val (.int ib), .val (.long (own_rk mk ia)), .second, .val (.long (own_rk mk ib)), .second, .val (.int (own_bf mk ia mk ib)), .val (.int (own_bf mk ib mk ia))] [(.int (0 : Int32)), (.int (own_bf mk ib mk ia))]))
          refine own_by (fun t kk_ => XS.icmpNo X21.here hx rfl (hb hby at_103) rfl (teq (own_F hb95_24)).2 kk_) ?_
          show OwnG p e below s _ _ _ (T21.setTop (mkF m 106 #[.val (.int mk), .val (.int tk), .val (.int ia), .val (.int ib), .val (.int sel), .val (.int mk), .val (.int ib), .val (.long (own_rk mk ia)), .second, .val (.long (own_rk mk ib)), .second, .val (.int (own_bf mk ia mk ib)), .val (.int (own_bf mk ib mk ia))] []))
          refine own_by (fun t kk_ => XS.iconst X21.here hx rfl (hb hby at_106) kk_) ?_
          show OwnG p e below s _ _ _ (T21.setTop (mkF m 107 #[.val (.int mk), .val (.int tk), .val (.int ia), .val (.int ib), .val (.int sel), .val (.int mk), .val (.int ib), .val (.long (own_rk mk ia)), .second, .val (.long (own_rk mk ib)), .second, .val (.int (own_bf mk ia mk ib)), .val (.int (own_bf mk ib mk ia))] [(.int (1 : Int32))]))
          refine own_by (fun t kk_ => XS.goto X21.here hx rfl (pc0 := 107) (pc' := 111) rfl (hb hby at_107) (by decide) (by decide) kk_) ?_
          show OwnG p e below s _ _ _ (T21.setTop (mkF m 111 #[.val (.int mk), .val (.int tk), .val (.int ia), .val (.int ib), .val (.int sel), .val (.int mk), .val (.int ib), .val (.long (own_rk mk ia)), .second, .val (.long (own_rk mk ib)), .second, .val (.int (own_bf mk ia mk ib)), .val (.int (own_bf mk ib mk ia))] [(.int (1 : Int32))]))
          exact own_outN X21 hx hret (by simp) hlk (hb hby at_111) rfl (⟨rfl, N21⟩) (by decide) (by decide)
    · refine own_by (fun t kk_ => XS.ifNo X0.here hx rfl (hb hby at_18) rfl ((if0 _ _).trans (feq hb18_17).1) kk_) ?_
      show OwnG p e below s _ _ _ (s₁.setTop (mkF m 21 #[.val (.int mk), .val (.int tk), .val (.int ia), .val (.int ib), .val (.int sel), .val (.int mk), .unset, .unset, .unset, .unset, .unset, .unset, .unset] []))
      refine own_by (fun t kk_ => XS.iloadN X0.here hx rfl (hb hby at_21) rfl  kk_) ?_
      show OwnG p e below s _ _ _ (s₁.setTop (mkF m 22 #[.val (.int mk), .val (.int tk), .val (.int ia), .val (.int ib), .val (.int sel), .val (.int mk), .unset, .unset, .unset, .unset, .unset, .unset, .unset] [(.int ia)]))
      refine own_by (fun t kk_ => XS.goto X0.here hx rfl (pc0 := 22) (pc' := 26) rfl (hb hby at_22) (by decide) (by decide) kk_) ?_
      show OwnG p e below s _ _ _ (s₁.setTop (mkF m 26 #[.val (.int mk), .val (.int tk), .val (.int ia), .val (.int ib), .val (.int sel), .val (.int mk), .unset, .unset, .unset, .unset, .unset, .unset, .unset] [(.int ia)]))
      refine own_by (fun t kk_ => XS.istore X0.here hx rfl (hb hby at_26) rfl (l' := #[.val (.int mk), .val (.int tk), .val (.int ia), .val (.int ib), .val (.int sel), .val (.int mk), .val (.int ia), .unset, .unset, .unset, .unset, .unset, .unset]) rfl kk_) ?_
      show OwnG p e below s _ _ _ (s₁.setTop (mkF m 28 #[.val (.int mk), .val (.int tk), .val (.int ia), .val (.int ib), .val (.int sel), .val (.int mk), .val (.int ia), .unset, .unset, .unset, .unset, .unset, .unset] []))
      refine own_by (fun t kk_ => XS.iloadN X0.here hx rfl (hb hby at_28) rfl  kk_) ?_
      show OwnG p e below s _ _ _ (s₁.setTop (mkF m 29 #[.val (.int mk), .val (.int tk), .val (.int ia), .val (.int ib), .val (.int sel), .val (.int mk), .val (.int ia), .unset, .unset, .unset, .unset, .unset, .unset] [(.int mk)]))
      refine own_by (fun t kk_ => XS.iloadN X0.here hx rfl (hb hby at_29) rfl  kk_) ?_
      show OwnG p e below s _ _ _ (s₁.setTop (mkF m 30 #[.val (.int mk), .val (.int tk), .val (.int ia), .val (.int ib), .val (.int sel), .val (.int mk), .val (.int ia), .unset, .unset, .unset, .unset, .unset, .unset] [(.int ia), (.int mk)]))
      obtain ⟨_, _, ⟨T25, L25, k25, n25⟩, -, X25, ⟨Lc25, hQ25, l25, y25, z25⟩, st25⟩ := Jvm.LawKit.callS X0 hx (y := (⟨"com/example/score_on_crawl/scoreoncrawl/engine/PageTreeBeforePinLaw", "rank", "(II)J"⟩ : MethodName)) hown (mvT hZ (hw _ (List.mem_of_getElem? (i := 0) rfl))) (mvT hZ (hw _ (List.mem_of_getElem? (i := 1) rfl))) (mvT hZ (hw _ (List.mem_of_getElem? (i := 2) rfl))) (mvT hZ (hw _ (List.mem_of_getElem? (i := 3) rfl))) (by decide) (backOf (W := 0) (rm1 l Z a0 hw [] mk ia h0 n0 Z0) hZ (hw _ (List.mem_of_getElem? (i := 3) rfl)) (hw _ (List.mem_of_getElem? (i := 2) rfl)) (by decide) (by decide)) (g := (mkF m 30 #[.val (.int mk), .val (.int tk), .val (.int ia), .val (.int ib), .val (.int sel), .val (.int mk), .val (.int ia), .unset, .unset, .unset, .unset, .unset, .unset] [(.int ia), (.int mk)])) rfl (by rw [hml]; rfl) (argsL := [(.int mk), (.int ia)]) (rest := []) (lenOf pd_0 rfl) rfl (by show 2 * 0 + _ ≤ _; exact Nat.le_of_eq rfl) (hb hby at_30) (fun _ _ => ⟨rfl, e0, (by decide : 0 + 0 ≤ _), (by decide : 0 + 0 ≤ _)⟩)
      dsimp only [Pt.U, Pt.locs, Pt.cells, Pt.slots] at X25 l25 y25 z25 st25 hQ25
      subst l25 y25 z25
      refine own_by (fun t kk_ => st25 _ kk_) ?_
      obtain ⟨rfl, N25q, hh25⟩ := hQ25
      have N25 := Fr.app N0 N25q
      have sz25 : n0 ≤ T25.heap.size := by rw [hh25]; exact Z0
      show OwnG p e below s _ _ _ (T25.setTop (mkF m 33 #[.val (.int mk), .val (.int tk), .val (.int ia), .val (.int ib), .val (.int sel), .val (.int mk), .val (.int ia), .unset, .unset, .unset, .unset, .unset, .unset] [(.long (own_rk mk ia))]))
      refine own_by (fun t kk_ => XS.lstore X25.here hx rfl (hb hby at_33) rfl (l' := #[.val (.int mk), .val (.int tk), .val (.int ia), .val (.int ib), .val (.int sel), .val (.int mk), .val (.int ia), .val (.long (own_rk mk ia)), .second, .unset, .unset, .unset, .unset]) rfl kk_) ?_
      show OwnG p e below s _ _ _ (T25.setTop (mkF m 35 #[.val (.int mk), .val (.int tk), .val (.int ia), .val (.int ib), .val (.int sel), .val (.int mk), .val (.int ia), .val (.long (own_rk mk ia)), .second, .unset, .unset, .unset, .unset] []))
      refine own_by (fun t kk_ => XS.iload X25.here hx rfl (hb hby at_35) rfl  kk_) ?_
      show OwnG p e below s _ _ _ (T25.setTop (mkF m 37 #[.val (.int mk), .val (.int tk), .val (.int ia), .val (.int ib), .val (.int sel), .val (.int mk), .val (.int ia), .val (.long (own_rk mk ia)), .second, .unset, .unset, .unset, .unset] [(.int mk)]))
      refine own_by (fun t kk_ => XS.iload X25.here hx rfl (hb hby at_37) rfl  kk_) ?_
      show OwnG p e below s _ _ _ (T25.setTop (mkF m 39 #[.val (.int mk), .val (.int tk), .val (.int ia), .val (.int ib), .val (.int sel), .val (.int mk), .val (.int ia), .val (.long (own_rk mk ia)), .second, .unset, .unset, .unset, .unset] [(.int ia), (.int mk)]))
      obtain ⟨_, _, ⟨T26, L26, k26, n26⟩, -, X26, ⟨Lc26, hQ26, l26, y26, z26⟩, st26⟩ := Jvm.LawKit.callS X25 hx (y := (⟨"com/example/score_on_crawl/scoreoncrawl/engine/PageTreeBeforePinLaw", "rank", "(II)J"⟩ : MethodName)) hown (mvT hZ (hw _ (List.mem_of_getElem? (i := 0) rfl))) (mvT hZ (hw _ (List.mem_of_getElem? (i := 1) rfl))) (mvT hZ (hw _ (List.mem_of_getElem? (i := 2) rfl))) (mvT hZ (hw _ (List.mem_of_getElem? (i := 3) rfl))) (by decide) (backOf (W := 0) (rm1 l Z a0 hw [] mk ia T25.heap n0 sz25) hZ (hw _ (List.mem_of_getElem? (i := 3) rfl)) (hw _ (List.mem_of_getElem? (i := 2) rfl)) (by decide) (by decide)) (g := (mkF m 39 #[.val (.int mk), .val (.int tk), .val (.int ia), .val (.int ib), .val (.int sel), .val (.int mk), .val (.int ia), .val (.long (own_rk mk ia)), .second, .unset, .unset, .unset, .unset] [(.int ia), (.int mk)])) rfl (by rw [hml]; rfl) (argsL := [(.int mk), (.int ia)]) (rest := []) (lenOf pd_0 rfl) rfl (by show 2 * 0 + _ ≤ _; exact Nat.le_of_eq rfl) (hb hby at_39) (fun _ _ => ⟨rfl, (rfl : T25.heap = T25.heap), (by decide : 0 + 0 ≤ _), (by decide : 0 + 0 ≤ _)⟩)
      dsimp only [Pt.U, Pt.locs, Pt.cells, Pt.slots] at X26 l26 y26 z26 st26 hQ26
      subst l26 y26 z26
      refine own_by (fun t kk_ => st26 _ kk_) ?_
      obtain ⟨rfl, N26q, hh26⟩ := hQ26
      have N26 := Fr.app N25 N26q
      have sz26 : n0 ≤ T26.heap.size := by rw [hh26]; exact sz25
      show OwnG p e below s _ _ _ (T26.setTop (mkF m 42 #[.val (.int mk), .val (.int tk), .val (.int ia), .val (.int ib), .val (.int sel), .val (.int mk), .val (.int ia), .val (.long (own_rk mk ia)), .second, .unset, .unset, .unset, .unset] [(.long (own_rk mk ia))]))
      refine own_by (fun t kk_ => XS.lstore X26.here hx rfl (hb hby at_42) rfl (l' := #[.val (.int mk), .val (.int tk), .val (.int ia), .val (.int ib), .val (.int sel), .val (.int mk), .val (.int ia), .val (.long (own_rk mk ia)), .second, .val (.long (own_rk mk ia)), .second, .unset, .unset]) rfl kk_) ?_
      show OwnG p e below s _ _ _ (T26.setTop (mkF m 44 #[.val (.int mk), .val (.int tk), .val (.int ia), .val (.int ib), .val (.int sel), .val (.int mk), .val (.int ia), .val (.long (own_rk mk ia)), .second, .val (.long (own_rk mk ia)), .second, .unset, .unset] []))
      refine own_by (fun t kk_ => XS.iloadN X26.here hx rfl (hb hby at_44) rfl  kk_) ?_
      show OwnG p e below s _ _ _ (T26.setTop (mkF m 45 #[.val (.int mk), .val (.int tk), .val (.int ia), .val (.int ib), .val (.int sel), .val (.int mk), .val (.int ia), .val (.long (own_rk mk ia)), .second, .val (.long (own_rk mk ia)), .second, .unset, .unset] [(.int mk)]))
      refine own_by (fun t kk_ => XS.i2dS X26.here hx rfl (hb hby at_45) rfl rfl kk_) ?_
      show OwnG p e below s _ _ _ (T26.setTop (mkF m 46 #[.val (.int mk), .val (.int tk), .val (.int ia), .val (.int ib), .val (.int sel), .val (.int mk), .val (.int ia), .val (.long (own_rk mk ia)), .second, .val (.long (own_rk mk ia)), .second, .unset, .unset] [(.double (FP.i2d mk))]))
      refine own_by (fun t kk_ => XS.iloadN X26.here hx rfl (hb hby at_46) rfl  kk_) ?_
      show OwnG p e below s _ _ _ (T26.setTop (mkF m 47 #[.val (.int mk), .val (.int tk), .val (.int ia), .val (.int ib), .val (.int sel), .val (.int mk), .val (.int ia), .val (.long (own_rk mk ia)), .second, .val (.long (own_rk mk ia)), .second, .unset, .unset] [(.int ia), (.double (FP.i2d mk))]))
      refine own_by (fun t kk_ => XS.iload X26.here hx rfl (hb hby at_47) rfl  kk_) ?_
      show OwnG p e below s _ _ _ (T26.setTop (mkF m 49 #[.val (.int mk), .val (.int tk), .val (.int ia), .val (.int ib), .val (.int sel), .val (.int mk), .val (.int ia), .val (.long (own_rk mk ia)), .second, .val (.long (own_rk mk ia)), .second, .unset, .unset] [(.int mk), (.int ia), (.double (FP.i2d mk))]))
      refine own_by (fun t kk_ => XS.i2dS X26.here hx rfl (hb hby at_49) rfl rfl kk_) ?_
      show OwnG p e below s _ _ _ (T26.setTop (mkF m 50 #[.val (.int mk), .val (.int tk), .val (.int ia), .val (.int ib), .val (.int sel), .val (.int mk), .val (.int ia), .val (.long (own_rk mk ia)), .second, .val (.long (own_rk mk ia)), .second, .unset, .unset] [(.double (FP.i2d mk)), (.int ia), (.double (FP.i2d mk))]))
      refine own_by (fun t kk_ => XS.iload X26.here hx rfl (hb hby at_50) rfl  kk_) ?_
      show OwnG p e below s _ _ _ (T26.setTop (mkF m 52 #[.val (.int mk), .val (.int tk), .val (.int ia), .val (.int ib), .val (.int sel), .val (.int mk), .val (.int ia), .val (.long (own_rk mk ia)), .second, .val (.long (own_rk mk ia)), .second, .unset, .unset] [(.int ia), (.double (FP.i2d mk)), (.int ia), (.double (FP.i2d mk))]))
      obtain ⟨_, _, ⟨T27, L27, k27, n27⟩, -, X27, ⟨Lc27, hQ27, l27, y27, z27⟩, st27⟩ := Jvm.LawKit.callS X26 hx (y := (⟨"com/example/score_on_crawl/scoreoncrawl/engine/PageTree", "before", "(DIDI)Z"⟩ : MethodName)) hown (mvT hZ (hw _ (List.mem_of_getElem? (i := 5) rfl))) (mvT hZ (hw _ (List.mem_of_getElem? (i := 6) rfl))) (mvT hZ (hw _ (List.mem_of_getElem? (i := 7) rfl))) (mvT hZ (hw _ (List.mem_of_getElem? (i := 8) rfl))) (by decide) (backOf (W := 0) (rm2 l Z a0 hw [] mk ia mk ia T26.heap n0 sz26) hZ (hw _ (List.mem_of_getElem? (i := 8) rfl)) (hw _ (List.mem_of_getElem? (i := 7) rfl)) (by decide) (by decide)) (g := (mkF m 52 #[.val (.int mk), .val (.int tk), .val (.int ia), .val (.int ib), .val (.int sel), .val (.int mk), .val (.int ia), .val (.long (own_rk mk ia)), .second, .val (.long (own_rk mk ia)), .second, .unset, .unset] [(.int ia), (.double (FP.i2d mk)), (.int ia), (.double (FP.i2d mk))])) rfl (by rw [hml]; rfl) (argsL := [(.double (FP.i2d mk)), (.int ia), (.double (FP.i2d mk)), (.int ia)]) (rest := []) (lenOf pd_1 rfl) rfl (by show 2 * 0 + _ ≤ _; exact Nat.le_of_eq rfl) (hb hby at_52) (fun _ _ => ⟨rfl, (rfl : T26.heap = T26.heap), (by decide : 0 + 0 ≤ _), (by decide : 0 + 0 ≤ _)⟩)
      dsimp only [Pt.U, Pt.locs, Pt.cells, Pt.slots] at X27 l27 y27 z27 st27 hQ27
      subst l27 y27 z27
      refine own_by (fun t kk_ => st27 _ kk_) ?_
      obtain ⟨rfl, N27q, hh27⟩ := hQ27
      have N27 := Fr.app N26 N27q
      have sz27 : n0 ≤ T27.heap.size := by rw [hh27]; exact sz26
      show OwnG p e below s _ _ _ (T27.setTop (mkF m 55 #[.val (.int mk), .val (.int tk), .val (.int ia), .val (.int ib), .val (.int sel), .val (.int mk), .val (.int ia), .val (.long (own_rk mk ia)), .second, .val (.long (own_rk mk ia)), .second, .unset, .unset] [(.int (own_bf mk ia mk ia))]))
      refine own_by (fun t kk_ => XS.istore X27.here hx rfl (hb hby at_55) rfl (l' := #[.val (.int mk), .val (.int tk), .val (.int ia), .val (.int ib), .val (.int sel), .val (.int mk), .val (.int ia), .val (.long (own_rk mk ia)), .second, .val (.long (own_rk mk ia)), .second, .val (.int (own_bf mk ia mk ia)), .unset]) rfl kk_) ?_
      show OwnG p e below s _ _ _ (T27.setTop (mkF m 57 #[.val (.int mk), .val (.int tk), .val (.int ia), .val (.int ib), .val (.int sel), .val (.int mk), .val (.int ia), .val (.long (own_rk mk ia)), .second, .val (.long (own_rk mk ia)), .second, .val (.int (own_bf mk ia mk ia)), .unset] []))
      refine own_by (fun t kk_ => XS.iload X27.here hx rfl (hb hby at_57) rfl  kk_) ?_
      show OwnG p e below s _ _ _ (T27.setTop (mkF m 59 #[.val (.int mk), .val (.int tk), .val (.int ia), .val (.int ib), .val (.int sel), .val (.int mk), .val (.int ia), .val (.long (own_rk mk ia)), .second, .val (.long (own_rk mk ia)), .second, .val (.int (own_bf mk ia mk ia)), .unset] [(.int mk)]))
      refine own_by (fun t kk_ => XS.i2dS X27.here hx rfl (hb hby at_59) rfl rfl kk_) ?_
      show OwnG p e below s _ _ _ (T27.setTop (mkF m 60 #[.val (.int mk), .val (.int tk), .val (.int ia), .val (.int ib), .val (.int sel), .val (.int mk), .val (.int ia), .val (.long (own_rk mk ia)), .second, .val (.long (own_rk mk ia)), .second, .val (.int (own_bf mk ia mk ia)), .unset] [(.double (FP.i2d mk))]))
      refine own_by (fun t kk_ => XS.iload X27.here hx rfl (hb hby at_60) rfl  kk_) ?_
      show OwnG p e below s _ _ _ (T27.setTop (mkF m 62 #[.val (.int mk), .val (.int tk), .val (.int ia), .val (.int ib), .val (.int sel), .val (.int mk), .val (.int ia), .val (.long (own_rk mk ia)), .second, .val (.long (own_rk mk ia)), .second, .val (.int (own_bf mk ia mk ia)), .unset] [(.int ia), (.double (FP.i2d mk))]))
      refine own_by (fun t kk_ => XS.iloadN X27.here hx rfl (hb hby at_62) rfl  kk_) ?_
      show OwnG p e below s _ _ _ (T27.setTop (mkF m 63 #[.val (.int mk), .val (.int tk), .val (.int ia), .val (.int ib), .val (.int sel), .val (.int mk), .val (.int ia), .val (.long (own_rk mk ia)), .second, .val (.long (own_rk mk ia)), .second, .val (.int (own_bf mk ia mk ia)), .unset] [(.int mk), (.int ia), (.double (FP.i2d mk))]))
      refine own_by (fun t kk_ => XS.i2dS X27.here hx rfl (hb hby at_63) rfl rfl kk_) ?_
      show OwnG p e below s _ _ _ (T27.setTop (mkF m 64 #[.val (.int mk), .val (.int tk), .val (.int ia), .val (.int ib), .val (.int sel), .val (.int mk), .val (.int ia), .val (.long (own_rk mk ia)), .second, .val (.long (own_rk mk ia)), .second, .val (.int (own_bf mk ia mk ia)), .unset] [(.double (FP.i2d mk)), (.int ia), (.double (FP.i2d mk))]))
      refine own_by (fun t kk_ => XS.iloadN X27.here hx rfl (hb hby at_64) rfl  kk_) ?_
      show OwnG p e below s _ _ _ (T27.setTop (mkF m 65 #[.val (.int mk), .val (.int tk), .val (.int ia), .val (.int ib), .val (.int sel), .val (.int mk), .val (.int ia), .val (.long (own_rk mk ia)), .second, .val (.long (own_rk mk ia)), .second, .val (.int (own_bf mk ia mk ia)), .unset] [(.int ia), (.double (FP.i2d mk)), (.int ia), (.double (FP.i2d mk))]))
      obtain ⟨_, _, ⟨T28, L28, k28, n28⟩, -, X28, ⟨Lc28, hQ28, l28, y28, z28⟩, st28⟩ := Jvm.LawKit.callS X27 hx (y := (⟨"com/example/score_on_crawl/scoreoncrawl/engine/PageTree", "before", "(DIDI)Z"⟩ : MethodName)) hown (mvT hZ (hw _ (List.mem_of_getElem? (i := 5) rfl))) (mvT hZ (hw _ (List.mem_of_getElem? (i := 6) rfl))) (mvT hZ (hw _ (List.mem_of_getElem? (i := 7) rfl))) (mvT hZ (hw _ (List.mem_of_getElem? (i := 8) rfl))) (by decide) (backOf (W := 0) (rm2 l Z a0 hw [] mk ia mk ia T27.heap n0 sz27) hZ (hw _ (List.mem_of_getElem? (i := 8) rfl)) (hw _ (List.mem_of_getElem? (i := 7) rfl)) (by decide) (by decide)) (g := (mkF m 65 #[.val (.int mk), .val (.int tk), .val (.int ia), .val (.int ib), .val (.int sel), .val (.int mk), .val (.int ia), .val (.long (own_rk mk ia)), .second, .val (.long (own_rk mk ia)), .second, .val (.int (own_bf mk ia mk ia)), .unset] [(.int ia), (.double (FP.i2d mk)), (.int ia), (.double (FP.i2d mk))])) rfl (by rw [hml]; rfl) (argsL := [(.double (FP.i2d mk)), (.int ia), (.double (FP.i2d mk)), (.int ia)]) (rest := []) (lenOf pd_1 rfl) rfl (by show 2 * 0 + _ ≤ _; exact Nat.le_of_eq rfl) (hb hby at_65) (fun _ _ => ⟨rfl, (rfl : T27.heap = T27.heap), (by decide : 0 + 0 ≤ _), (by decide : 0 + 0 ≤ _)⟩)
      dsimp only [Pt.U, Pt.locs, Pt.cells, Pt.slots] at X28 l28 y28 z28 st28 hQ28
      subst l28 y28 z28
      refine own_by (fun t kk_ => st28 _ kk_) ?_
      obtain ⟨rfl, N28q, hh28⟩ := hQ28
      have N28 := Fr.app N27 N28q
      have sz28 : n0 ≤ T28.heap.size := by rw [hh28]; exact sz27
      show OwnG p e below s _ _ _ (T28.setTop (mkF m 68 #[.val (.int mk), .val (.int tk), .val (.int ia), .val (.int ib), .val (.int sel), .val (.int mk), .val (.int ia), .val (.long (own_rk mk ia)), .second, .val (.long (own_rk mk ia)), .second, .val (.int (own_bf mk ia mk ia)), .unset] [(.int (own_bf mk ia mk ia))]))
      refine own_by (fun t kk_ => XS.istore X28.here hx rfl (hb hby at_68) rfl (l' := #[.val (.int mk), .val (.int tk), .val (.int ia), .val (.int ib), .val (.int sel), .val (.int mk), .val (.int ia), .val (.long (own_rk mk ia)), .second, .val (.long (own_rk mk ia)), .second, .val (.int (own_bf mk ia mk ia)), .val (.int (own_bf mk ia mk ia))]) rfl kk_) ?_
      show OwnG p e below s _ _ _ (T28.setTop (mkF m 70 #[.val (.int mk), .val (.int tk), .val (.int ia), .val (.int ib), .val (.int sel), .val (.int mk), .val (.int ia), .val (.long (own_rk mk ia)), .second, .val (.long (own_rk mk ia)), .second, .val (.int (own_bf mk ia mk ia)), .val (.int (own_bf mk ia mk ia))] []))
      refine own_by (fun t kk_ => XS.iload X28.here hx rfl (hb hby at_70) rfl  kk_) ?_
      show OwnG p e below s _ _ _ (T28.setTop (mkF m 72 #[.val (.int mk), .val (.int tk), .val (.int ia), .val (.int ib), .val (.int sel), .val (.int mk), .val (.int ia), .val (.long (own_rk mk ia)), .second, .val (.long (own_rk mk ia)), .second, .val (.int (own_bf mk ia mk ia)), .val (.int (own_bf mk ia mk ia))] [(.int (own_bf mk ia mk ia))]))
      refine own_by (fun t kk_ => XS.lload X28.here hx rfl (hb hby at_72) rfl  kk_) ?_
      show OwnG p e below s _ _ _ (T28.setTop (mkF m 74 #[.val (.int mk), .val (.int tk), .val (.int ia), .val (.int ib), .val (.int sel), .val (.int mk), .val (.int ia), .val (.long (own_rk mk ia)), .second, .val (.long (own_rk mk ia)), .second, .val (.int (own_bf mk ia mk ia)), .val (.int (own_bf mk ia mk ia))] [(.long (own_rk mk ia)), (.int (own_bf mk ia mk ia))]))
      refine own_by (fun t kk_ => XS.lload X28.here hx rfl (hb hby at_74) rfl  kk_) ?_
      show OwnG p e below s _ _ _ (T28.setTop (mkF m 76 #[.val (.int mk), .val (.int tk), .val (.int ia), .val (.int ib), .val (.int sel), .val (.int mk), .val (.int ia), .val (.long (own_rk mk ia)), .second, .val (.long (own_rk mk ia)), .second, .val (.int (own_bf mk ia mk ia)), .val (.int (own_bf mk ia mk ia))] [(.long (own_rk mk ia)), (.long (own_rk mk ia)), (.int (own_bf mk ia mk ia))]))
      refine own_by (fun t kk_ => XS.lcmp X28.here hx rfl (hb hby at_76) rfl kk_) ?_
      show OwnG p e below s _ _ _ (T28.setTop (mkF m 77 #[.val (.int mk), .val (.int tk), .val (.int ia), .val (.int ib), .val (.int sel), .val (.int mk), .val (.int ia), .val (.long (own_rk mk ia)), .second, .val (.long (own_rk mk ia)), .second, .val (.int (own_bf mk ia mk ia)), .val (.int (own_bf mk ia mk ia))] [(.int (lcmpW (own_rk mk ia) (own_rk mk ia))), (.int (own_bf mk ia mk ia))]))
      by_cases hb77_29 : (own_rk mk ia) < (own_rk mk ia)
      · refine own_by (fun t kk_ => XS.ifNo X28.here hx rfl (hb hby at_77) rfl ((if0 _ _).trans (tlt ((lw_gt _ _).mpr hb77_29)).2.2.2) kk_) ?_
        show OwnG p e below s _ _ _ (T28.setTop (mkF m 80 #[.val (.int mk), .val (.int tk), .val (.int ia), .val (.int ib), .val (.int sel), .val (.int mk), .val (.int ia), .val (.long (own_rk mk ia)), .second, .val (.long (own_rk mk ia)), .second, .val (.int (own_bf mk ia mk ia)), .val (.int (own_bf mk ia mk ia))] [(.int (own_bf mk ia mk ia))]))
        refine own_by (fun t kk_ => XS.iconst X28.here hx rfl (hb hby at_80) kk_) ?_
        show OwnG p e below s _ _ _ (T28.setTop (mkF m 81 #[.val (.int mk), .val (.int tk), .val (.int ia), .val (.int ib), .val (.int sel), .val (.int mk), .val (.int ia), .val (.long (own_rk mk ia)), .second, .val (.long (own_rk mk ia)), .second, .val (.int (own_bf mk ia mk ia)), .val (.int (own_bf mk ia mk ia))] [(.int (1 : Int32)), (.int (own_bf mk ia mk ia))]))
        refine own_by (fun t kk_ => XS.goto X28.here hx rfl (pc0 := 81) (pc' := 85) rfl (hb hby at_81) (by decide) (by decide) kk_) ?_
        show OwnG p e below s _ _ _ (T28.setTop (mkF m 85 #[.val (.int mk), .val (.int tk), .val (.int ia), .val (.int ib), .val (.int sel), .val (.int mk), .val (.int ia), .val (.long (own_rk mk ia)), .second, .val (.long (own_rk mk ia)), .second, .val (.int (own_bf mk ia mk ia)), .val (.int (own_bf mk ia mk ia))] [(.int (1 : Int32)), (.int (own_bf mk ia mk ia))]))
        refine own_by (fun t kk_ => XS.icmpNo X28.here hx rfl (hb hby at_85) rfl (teq (own_T hb77_29)).2 kk_) ?_
        show OwnG p e below s _ _ _ (T28.setTop (mkF m 88 #[.val (.int mk), .val (.int tk), .val (.int ia), .val (.int ib), .val (.int sel), .val (.int mk), .val (.int ia), .val (.long (own_rk mk ia)), .second, .val (.long (own_rk mk ia)), .second, .val (.int (own_bf mk ia mk ia)), .val (.int (own_bf mk ia mk ia))] []))
        refine own_by (fun t kk_ => XS.iload X28.here hx rfl (hb hby at_88) rfl  kk_) ?_
        show OwnG p e below s _ _ _ (T28.setTop (mkF m 90 #[.val (.int mk), .val (.int tk), .val (.int ia), .val (.int ib), .val (.int sel), .val (.int mk), .val (.int ia), .val (.long (own_rk mk ia)), .second, .val (.long (own_rk mk ia)), .second, .val (.int (own_bf mk ia mk ia)), .val (.int (own_bf mk ia mk ia))] [(.int (own_bf mk ia mk ia))]))
        refine own_by (fun t kk_ => XS.lload X28.here hx rfl (hb hby at_90) rfl  kk_) ?_
        show OwnG p e below s _ _ _ (T28.setTop (mkF m 92 #[.val (.int mk), .val (.int tk), .val (.int ia), .val (.int ib), .val (.int sel), .val (.int mk), .val (.int ia), .val (.long (own_rk mk ia)), .second, .val (.long (own_rk mk ia)), .second, .val (.int (own_bf mk ia mk ia)), .val (.int (own_bf mk ia mk ia))] [(.long (own_rk mk ia)), (.int (own_bf mk ia mk ia))]))
        refine own_by (fun t kk_ => XS.lload X28.here hx rfl (hb hby at_92) rfl  kk_) ?_
        show OwnG p e below s _ _ _ (T28.setTop (mkF m 94 #[.val (.int mk), .val (.int tk), .val (.int ia), .val (.int ib), .val (.int sel), .val (.int mk), .val (.int ia), .val (.long (own_rk mk ia)), .second, .val (.long (own_rk mk ia)), .second, .val (.int (own_bf mk ia mk ia)), .val (.int (own_bf mk ia mk ia))] [(.long (own_rk mk ia)), (.long (own_rk mk ia)), (.int (own_bf mk ia mk ia))]))
        refine own_by (fun t kk_ => XS.lcmp X28.here hx rfl (hb hby at_94) rfl kk_) ?_
        show OwnG p e below s _ _ _ (T28.setTop (mkF m 95 #[.val (.int mk), .val (.int tk), .val (.int ia), .val (.int ib), .val (.int sel), .val (.int mk), .val (.int ia), .val (.long (own_rk mk ia)), .second, .val (.long (own_rk mk ia)), .second, .val (.int (own_bf mk ia mk ia)), .val (.int (own_bf mk ia mk ia))] [(.int (lcmpW (own_rk mk ia) (own_rk mk ia))), (.int (own_bf mk ia mk ia))]))
        by_cases hb95_30 : (own_rk mk ia) < (own_rk mk ia)
        · refine own_by (fun t kk_ => XS.ifNo X28.here hx rfl (hb hby at_95) rfl ((if0 _ _).trans (tlt ((lw_gt _ _).mpr hb95_30)).2.2.2) kk_) ?_
          show OwnG p e below s _ _ _ (T28.setTop (mkF m 98 #[.val (.int mk), .val (.int tk), .val (.int ia), .val (.int ib), .val (.int sel), .val (.int mk), .val (.int ia), .val (.long (own_rk mk ia)), .second, .val (.long (own_rk mk ia)), .second, .val (.int (own_bf mk ia mk ia)), .val (.int (own_bf mk ia mk ia))] [(.int (own_bf mk ia mk ia))]))
          refine own_by (fun t kk_ => XS.iconst X28.here hx rfl (hb hby at_98) kk_) ?_
          show OwnG p e below s _ _ _ (T28.setTop (mkF m 99 #[.val (.int mk), .val (.int tk), .val (.int ia), .val (.int ib), .val (.int sel), .val (.int mk), .val (.int ia), .val (.long (own_rk mk ia)), .second, .val (.long (own_rk mk ia)), .second, .val (.int (own_bf mk ia mk ia)), .val (.int (own_bf mk ia mk ia))] [(.int (1 : Int32)), (.int (own_bf mk ia mk ia))]))
          refine own_by (fun t kk_ => XS.goto X28.here hx rfl (pc0 := 99) (pc' := 103) rfl (hb hby at_99) (by decide) (by decide) kk_) ?_
          show OwnG p e below s _ _ _ (T28.setTop (mkF m 103 #[.val (.int mk), .val (.int tk), .val (.int ia), .val (.int ib), .val (.int sel), .val (.int mk), .val (.int ia), .val (.long (own_rk mk ia)), .second, .val (.long (own_rk mk ia)), .second, .val (.int (own_bf mk ia mk ia)), .val (.int (own_bf mk ia mk ia))] [(.int (1 : Int32)), (.int (own_bf mk ia mk ia))]))
          refine own_by (fun t kk_ => XS.icmpNo X28.here hx rfl (hb hby at_103) rfl (teq (own_T hb95_30)).2 kk_) ?_
          show OwnG p e below s _ _ _ (T28.setTop (mkF m 106 #[.val (.int mk), .val (.int tk), .val (.int ia), .val (.int ib), .val (.int sel), .val (.int mk), .val (.int ia), .val (.long (own_rk mk ia)), .second, .val (.long (own_rk mk ia)), .second, .val (.int (own_bf mk ia mk ia)), .val (.int (own_bf mk ia mk ia))] []))
          refine own_by (fun t kk_ => XS.iconst X28.here hx rfl (hb hby at_106) kk_) ?_
          show OwnG p e below s _ _ _ (T28.setTop (mkF m 107 #[.val (.int mk), .val (.int tk), .val (.int ia), .val (.int ib), .val (.int sel), .val (.int mk), .val (.int ia), .val (.long (own_rk mk ia)), .second, .val (.long (own_rk mk ia)), .second, .val (.int (own_bf mk ia mk ia)), .val (.int (own_bf mk ia mk ia))] [(.int (1 : Int32))]))
          refine own_by (fun t kk_ => XS.goto X28.here hx rfl (pc0 := 107) (pc' := 111) rfl (hb hby at_107) (by decide) (by decide) kk_) ?_
          show OwnG p e below s _ _ _ (T28.setTop (mkF m 111 #[.val (.int mk), .val (.int tk), .val (.int ia), .val (.int ib), .val (.int sel), .val (.int mk), .val (.int ia), .val (.long (own_rk mk ia)), .second, .val (.long (own_rk mk ia)), .second, .val (.int (own_bf mk ia mk ia)), .val (.int (own_bf mk ia mk ia))] [(.int (1 : Int32))]))
          exact own_outN X28 hx hret (by simp) hlk (hb hby at_111) rfl (⟨rfl, N28⟩) (by decide) (by decide)
        · refine own_by (fun t kk_ => XS.ifYes X28.here hx rfl (pc0 := 95) (pc' := 102) rfl (hb hby at_95) rfl ((if0 _ _).trans (flt (fun q => hb95_30 ((lw_gt _ _).mp q))).2.2.2) (by decide) (by decide) kk_) ?_
          show OwnG p e below s _ _ _ (T28.setTop (mkF m 102 #[.val (.int mk), .val (.int tk), .val (.int ia), .val (.int ib), .val (.int sel), .val (.int mk), .val (.int ia), .val (.long (own_rk mk ia)), .second, .val (.long (own_rk mk ia)), .second, .val (.int (own_bf mk ia mk ia)), .val (.int (own_bf mk ia mk ia))] [(.int (own_bf mk ia mk ia))]))
          refine own_by (fun t kk_ => XS.iconst X28.here hx rfl (hb hby at_102) kk_) ?_
          show OwnG p e below s _ _ _ (T28.setTop (mkF m 103 #[.val (.int mk), .val (.int tk), .val (.int ia), .val (.int ib), .val (.int sel), .val (.int mk), .val (.int ia), .val (.long (own_rk mk ia)), .second, .val (.long (own_rk mk ia)), .second, .val (.int (own_bf mk ia mk ia)), .val (.int (own_bf mk ia mk ia))] [(.int (0 : Int32)), (.int (own_bf mk ia mk ia))]))
          refine own_by (fun t kk_ => XS.icmpNo X28.here hx rfl (hb hby at_103) rfl (teq (own_F hb95_30)).2 kk_) ?_
          show OwnG p e below s _ _ _ (T28.setTop (mkF m 106 #[.val (.int mk), .val (.int tk), .val (.int ia), .val (.int ib), .val (.int sel), .val (.int mk), .val (.int ia), .val (.long (own_rk mk ia)), .second, .val (.long (own_rk mk ia)), .second, .val (.int (own_bf mk ia mk ia)), .val (.int (own_bf mk ia mk ia))] []))
          refine own_by (fun t kk_ => XS.iconst X28.here hx rfl (hb hby at_106) kk_) ?_
          show OwnG p e below s _ _ _ (T28.setTop (mkF m 107 #[.val (.int mk), .val (.int tk), .val (.int ia), .val (.int ib), .val (.int sel), .val (.int mk), .val (.int ia), .val (.long (own_rk mk ia)), .second, .val (.long (own_rk mk ia)), .second, .val (.int (own_bf mk ia mk ia)), .val (.int (own_bf mk ia mk ia))] [(.int (1 : Int32))]))
          refine own_by (fun t kk_ => XS.goto X28.here hx rfl (pc0 := 107) (pc' := 111) rfl (hb hby at_107) (by decide) (by decide) kk_) ?_
          show OwnG p e below s _ _ _ (T28.setTop (mkF m 111 #[.val (.int mk), .val (.int tk), .val (.int ia), .val (.int ib), .val (.int sel), .val (.int mk), .val (.int ia), .val (.long (own_rk mk ia)), .second, .val (.long (own_rk mk ia)), .second, .val (.int (own_bf mk ia mk ia)), .val (.int (own_bf mk ia mk ia))] [(.int (1 : Int32))]))
          exact own_outN X28 hx hret (by simp) hlk (hb hby at_111) rfl (⟨rfl, N28⟩) (by decide) (by decide)
      · refine own_by (fun t kk_ => XS.ifYes X28.here hx rfl (pc0 := 77) (pc' := 84) rfl (hb hby at_77) rfl ((if0 _ _).trans (flt (fun q => hb77_29 ((lw_gt _ _).mp q))).2.2.2) (by decide) (by decide) kk_) ?_
        show OwnG p e below s _ _ _ (T28.setTop (mkF m 84 #[.val (.int mk), .val (.int tk), .val (.int ia), .val (.int ib), .val (.int sel), .val (.int mk), .val (.int ia), .val (.long (own_rk mk ia)), .second, .val (.long (own_rk mk ia)), .second, .val (.int (own_bf mk ia mk ia)), .val (.int (own_bf mk ia mk ia))] [(.int (own_bf mk ia mk ia))]))
        refine own_by (fun t kk_ => XS.iconst X28.here hx rfl (hb hby at_84) kk_) ?_
        show OwnG p e below s _ _ _ (T28.setTop (mkF m 85 #[.val (.int mk), .val (.int tk), .val (.int ia), .val (.int ib), .val (.int sel), .val (.int mk), .val (.int ia), .val (.long (own_rk mk ia)), .second, .val (.long (own_rk mk ia)), .second, .val (.int (own_bf mk ia mk ia)), .val (.int (own_bf mk ia mk ia))] [(.int (0 : Int32)), (.int (own_bf mk ia mk ia))]))
        refine own_by (fun t kk_ => XS.icmpNo X28.here hx rfl (hb hby at_85) rfl (teq (own_F hb77_29)).2 kk_) ?_
        show OwnG p e below s _ _ _ (T28.setTop (mkF m 88 #[.val (.int mk), .val (.int tk), .val (.int ia), .val (.int ib), .val (.int sel), .val (.int mk), .val (.int ia), .val (.long (own_rk mk ia)), .second, .val (.long (own_rk mk ia)), .second, .val (.int (own_bf mk ia mk ia)), .val (.int (own_bf mk ia mk ia))] []))
        refine own_by (fun t kk_ => XS.iload X28.here hx rfl (hb hby at_88) rfl  kk_) ?_
        show OwnG p e below s _ _ _ (T28.setTop (mkF m 90 #[.val (.int mk), .val (.int tk), .val (.int ia), .val (.int ib), .val (.int sel), .val (.int mk), .val (.int ia), .val (.long (own_rk mk ia)), .second, .val (.long (own_rk mk ia)), .second, .val (.int (own_bf mk ia mk ia)), .val (.int (own_bf mk ia mk ia))] [(.int (own_bf mk ia mk ia))]))
        refine own_by (fun t kk_ => XS.lload X28.here hx rfl (hb hby at_90) rfl  kk_) ?_
        show OwnG p e below s _ _ _ (T28.setTop (mkF m 92 #[.val (.int mk), .val (.int tk), .val (.int ia), .val (.int ib), .val (.int sel), .val (.int mk), .val (.int ia), .val (.long (own_rk mk ia)), .second, .val (.long (own_rk mk ia)), .second, .val (.int (own_bf mk ia mk ia)), .val (.int (own_bf mk ia mk ia))] [(.long (own_rk mk ia)), (.int (own_bf mk ia mk ia))]))
        refine own_by (fun t kk_ => XS.lload X28.here hx rfl (hb hby at_92) rfl  kk_) ?_
        show OwnG p e below s _ _ _ (T28.setTop (mkF m 94 #[.val (.int mk), .val (.int tk), .val (.int ia), .val (.int ib), .val (.int sel), .val (.int mk), .val (.int ia), .val (.long (own_rk mk ia)), .second, .val (.long (own_rk mk ia)), .second, .val (.int (own_bf mk ia mk ia)), .val (.int (own_bf mk ia mk ia))] [(.long (own_rk mk ia)), (.long (own_rk mk ia)), (.int (own_bf mk ia mk ia))]))
        refine own_by (fun t kk_ => XS.lcmp X28.here hx rfl (hb hby at_94) rfl kk_) ?_
        show OwnG p e below s _ _ _ (T28.setTop (mkF m 95 #[.val (.int mk), .val (.int tk), .val (.int ia), .val (.int ib), .val (.int sel), .val (.int mk), .val (.int ia), .val (.long (own_rk mk ia)), .second, .val (.long (own_rk mk ia)), .second, .val (.int (own_bf mk ia mk ia)), .val (.int (own_bf mk ia mk ia))] [(.int (lcmpW (own_rk mk ia) (own_rk mk ia))), (.int (own_bf mk ia mk ia))]))
        by_cases hb95_31 : (own_rk mk ia) < (own_rk mk ia)
        · refine own_by (fun t kk_ => XS.ifNo X28.here hx rfl (hb hby at_95) rfl ((if0 _ _).trans (tlt ((lw_gt _ _).mpr hb95_31)).2.2.2) kk_) ?_
          show OwnG p e below s _ _ _ (T28.setTop (mkF m 98 #[.val (.int mk), .val (.int tk), .val (.int ia), .val (.int ib), .val (.int sel), .val (.int mk), .val (.int ia), .val (.long (own_rk mk ia)), .second, .val (.long (own_rk mk ia)), .second, .val (.int (own_bf mk ia mk ia)), .val (.int (own_bf mk ia mk ia))] [(.int (own_bf mk ia mk ia))]))
          refine own_by (fun t kk_ => XS.iconst X28.here hx rfl (hb hby at_98) kk_) ?_
          show OwnG p e below s _ _ _ (T28.setTop (mkF m 99 #[.val (.int mk), .val (.int tk), .val (.int ia), .val (.int ib), .val (.int sel), .val (.int mk), .val (.int ia), .val (.long (own_rk mk ia)), .second, .val (.long (own_rk mk ia)), .second, .val (.int (own_bf mk ia mk ia)), .val (.int (own_bf mk ia mk ia))] [(.int (1 : Int32)), (.int (own_bf mk ia mk ia))]))
          refine own_by (fun t kk_ => XS.goto X28.here hx rfl (pc0 := 99) (pc' := 103) rfl (hb hby at_99) (by decide) (by decide) kk_) ?_
          show OwnG p e below s _ _ _ (T28.setTop (mkF m 103 #[.val (.int mk), .val (.int tk), .val (.int ia), .val (.int ib), .val (.int sel), .val (.int mk), .val (.int ia), .val (.long (own_rk mk ia)), .second, .val (.long (own_rk mk ia)), .second, .val (.int (own_bf mk ia mk ia)), .val (.int (own_bf mk ia mk ia))] [(.int (1 : Int32)), (.int (own_bf mk ia mk ia))]))
          refine own_by (fun t kk_ => XS.icmpNo X28.here hx rfl (hb hby at_103) rfl (teq (own_T hb95_31)).2 kk_) ?_
          show OwnG p e below s _ _ _ (T28.setTop (mkF m 106 #[.val (.int mk), .val (.int tk), .val (.int ia), .val (.int ib), .val (.int sel), .val (.int mk), .val (.int ia), .val (.long (own_rk mk ia)), .second, .val (.long (own_rk mk ia)), .second, .val (.int (own_bf mk ia mk ia)), .val (.int (own_bf mk ia mk ia))] []))
          refine own_by (fun t kk_ => XS.iconst X28.here hx rfl (hb hby at_106) kk_) ?_
          show OwnG p e below s _ _ _ (T28.setTop (mkF m 107 #[.val (.int mk), .val (.int tk), .val (.int ia), .val (.int ib), .val (.int sel), .val (.int mk), .val (.int ia), .val (.long (own_rk mk ia)), .second, .val (.long (own_rk mk ia)), .second, .val (.int (own_bf mk ia mk ia)), .val (.int (own_bf mk ia mk ia))] [(.int (1 : Int32))]))
          refine own_by (fun t kk_ => XS.goto X28.here hx rfl (pc0 := 107) (pc' := 111) rfl (hb hby at_107) (by decide) (by decide) kk_) ?_
          show OwnG p e below s _ _ _ (T28.setTop (mkF m 111 #[.val (.int mk), .val (.int tk), .val (.int ia), .val (.int ib), .val (.int sel), .val (.int mk), .val (.int ia), .val (.long (own_rk mk ia)), .second, .val (.long (own_rk mk ia)), .second, .val (.int (own_bf mk ia mk ia)), .val (.int (own_bf mk ia mk ia))] [(.int (1 : Int32))]))
          exact own_outN X28 hx hret (by simp) hlk (hb hby at_111) rfl (⟨rfl, N28⟩) (by decide) (by decide)
        · refine own_by (fun t kk_ => XS.ifYes X28.here hx rfl (pc0 := 95) (pc' := 102) rfl (hb hby at_95) rfl ((if0 _ _).trans (flt (fun q => hb95_31 ((lw_gt _ _).mp q))).2.2.2) (by decide) (by decide) kk_) ?_
          show OwnG p e below s _ _ _ (T28.setTop (mkF m 102 #[.val (.int mk), .val (.int tk), .val (.int ia), .val (.int ib), .val (.int sel), .val (.int mk), .val (.int ia), .val (.long (own_rk mk ia)), .second, .val (.long (own_rk mk ia)), .second, .val (.int (own_bf mk ia mk ia)), .val (.int (own_bf mk ia mk ia))] [(.int (own_bf mk ia mk ia))]))
          refine own_by (fun t kk_ => XS.iconst X28.here hx rfl (hb hby at_102) kk_) ?_
          show OwnG p e below s _ _ _ (T28.setTop (mkF m 103 #[.val (.int mk), .val (.int tk), .val (.int ia), .val (.int ib), .val (.int sel), .val (.int mk), .val (.int ia), .val (.long (own_rk mk ia)), .second, .val (.long (own_rk mk ia)), .second, .val (.int (own_bf mk ia mk ia)), .val (.int (own_bf mk ia mk ia))] [(.int (0 : Int32)), (.int (own_bf mk ia mk ia))]))
          refine own_by (fun t kk_ => XS.icmpNo X28.here hx rfl (hb hby at_103) rfl (teq (own_F hb95_31)).2 kk_) ?_
          show OwnG p e below s _ _ _ (T28.setTop (mkF m 106 #[.val (.int mk), .val (.int tk), .val (.int ia), .val (.int ib), .val (.int sel), .val (.int mk), .val (.int ia), .val (.long (own_rk mk ia)), .second, .val (.long (own_rk mk ia)), .second, .val (.int (own_bf mk ia mk ia)), .val (.int (own_bf mk ia mk ia))] []))
          refine own_by (fun t kk_ => XS.iconst X28.here hx rfl (hb hby at_106) kk_) ?_
          show OwnG p e below s _ _ _ (T28.setTop (mkF m 107 #[.val (.int mk), .val (.int tk), .val (.int ia), .val (.int ib), .val (.int sel), .val (.int mk), .val (.int ia), .val (.long (own_rk mk ia)), .second, .val (.long (own_rk mk ia)), .second, .val (.int (own_bf mk ia mk ia)), .val (.int (own_bf mk ia mk ia))] [(.int (1 : Int32))]))
          refine own_by (fun t kk_ => XS.goto X28.here hx rfl (pc0 := 107) (pc' := 111) rfl (hb hby at_107) (by decide) (by decide) kk_) ?_
          show OwnG p e below s _ _ _ (T28.setTop (mkF m 111 #[.val (.int mk), .val (.int tk), .val (.int ia), .val (.int ib), .val (.int sel), .val (.int mk), .val (.int ia), .val (.long (own_rk mk ia)), .second, .val (.long (own_rk mk ia)), .second, .val (.int (own_bf mk ia mk ia)), .val (.int (own_bf mk ia mk ia))] [(.int (1 : Int32))]))
          exact own_outN X28 hx hret (by simp) hlk (hb hby at_111) rfl (⟨rfl, N28⟩) (by decide) (by decide)
set_option maxRecDepth 65536 in
set_option maxHeartbeats 40000000 in
theorem comes_1 {Post : Tables → Env → Array Value → State → Outcome → State → Prop} (hpost : ∀ tb e args s v u, (limb_1_1.after args s (.returned v) u = true ∧ limb_1_2.after args s (.returned v) u = true ∧ True) → FrameEnd s (.returned v) u (Jvm.fieldLocs frame_1_writes args s ++ Jvm.arrayLocs frame_1_arrays args s ++ Jvm.staticLocs frame_1_statics s) 0 0 → Post tb e args s (.returned v) u) :
    ArmFor flags0 classFile x code maxLocals ret World_1 tables_1 room_1 Calls_1 rest_1 Pre_1 Post := by
  intro l hfl _ _ p e ha hc hk s m args below hf hA hF happ hP
  obtain ⟨hcalls, hrest, hpre⟩ := hP
  obtain ⟨-, -, -, hnamed, -, -, -, hat⟩ := (Spec.applies_iff hf).mp happ
  obtain ⟨hg, hn⟩ := and_e (Cond.before_iff.mp (show (Jvm.Cond.and given_1 narrow_1).before args s = true from hpre))
  obtain ⟨gc, gr0⟩ := and_e hg
  obtain ⟨ga0, gr1⟩ := and_e gr0
  obtain ⟨ga1, gr2⟩ := and_e gr1
  obtain ⟨ga2, gr3⟩ := and_e gr2
  obtain ⟨ga3, gr4⟩ := and_e gr3
  obtain ⟨w0, w1, w2, w3, w4, rfl⟩ : ∃ w0 w1 w2 w3 w4 : Value, args = #[w0, w1, w2, w3, w4] := by
    have hs : args.size = 5 := by simpa [Cond.value, given_1] using gc
    obtain ⟨L⟩ := args
    match L, hs with
    | [w0, w1, w2, w3, w4], _ => exact ⟨w0, w1, w2, w3, w4, rfl⟩
  have hw := fun d (hd : d ∈ tables_1) => atoms_spec (ws := Jvm.Cond.code x code maxLocals ret :: tables_1) hat d (List.mem_cons_of_mem _ hd)
  obtain ⟨i0, ei0⟩ := is_v ga0
  obtain rfl : w0 = (.int i0) := Option.some.inj ei0
  obtain ⟨i1, ei1⟩ := is_v ga1
  obtain rfl : w1 = (.int i1) := Option.some.inj ei1
  obtain ⟨i2, ei2⟩ := is_v ga2
  obtain rfl : w2 = (.int i2) := Option.some.inj ei2
  obtain ⟨i3, ei3⟩ := is_v ga3
  obtain rfl : w3 = (.int i3) := Option.some.inj ei3
  obtain ⟨i4, ei4⟩ := is_v gr4
  obtain rfl : w4 = (.int i4) := Option.some.inj ei4
  obtain ⟨n, o, h1, h2, h3, _, L, rfl, ⟨rfl, N⟩, hq⟩ := rm0 l s _ hw tables_1 i0 i1 i2 i3 i4 s.heap s.heap.size (Nat.le_refl _) p e ha hc hk s m _ below hf ((Spec.applies_iff_loose hf).mp happ).1 ⟨rfl, State.Warmed39.refl s, rfl⟩ trivial
  refine ⟨n, _, h1, h2, h3, hpost _ _ _ _ _ _ ⟨Cond.after_iff.mpr rfl, Cond.after_iff.mpr (eq_i res_at (Term.int_eval (1)) rfl), trivial⟩ ⟨hq.1, hq.2.1, (hq.2.2.sift fun y hy => Or.inr (N y hy)).mono (by decide) (by decide)⟩⟩
theorem main_1_1 : Claimed_1_1 := comes_1 fun _ _ _ _ _ _ h hF => ⟨h.1, hF⟩
theorem main_1_2 : Claimed_1_2 := comes_1 fun _ _ _ _ _ _ h hF => ⟨h.2.1, hF⟩
end Jvm.Pilot.@@N@@
namespace Jvm.Pilot.@@N@@
open Jvm Jvm.ClassFile Sem Op Lib Jvm.Free Jvm.Stand Jvm.Pilot.@@N@@.Jvm.D
/-! MADE BY PROGRAM (witnessworld.py) out of the Statement's table words and the real class files: 9 classes; the members and pool entries that the words name. The judged class is class 1, her method 1. -/
namespace start1
open Jvm.ClassFile
def u (s : String) : CpInfo := .utf8 (stringToUtf16 s)
/-- a pool by its gaps: so many unusable entries, then the entry; so many at the end -/
def gap : Nat → List CpInfo → List CpInfo
  | 0, r => r
  | n + 1, r => .unusable :: gap n r
def poolList (es : List (Nat × CpInfo)) (last : Nat) : List CpInfo := es.foldr (fun e r => gap e.1 (e.2 :: r)) (gap last [])
def pool (es : List (Nat × CpInfo)) (last : Nat) : Array CpInfo := ⟨poolList es last⟩
def fileOf (pool : Array CpInfo) (this : Nat) (attrs : Array Attribute := #[]) (ms : Array MethodInfo := #[]) (fl : Nat := 33) (sup : Nat := 0) (ifs : Array Nat := #[]) (fds : Array FieldInfo := #[]) : ClassFile where
  minorVersion := 0
  majorVersion := 65
  constantPool := pool
  accessFlags := fl
  thisClass := this
  superClass := sup
  interfaces := ifs
  fields := fds
  methods := ms
  attributes := attrs
def plain (name : String) (sup : Option ClassId) : Class where
  name := name
  kind := .ordinary
  loader := none
  accessFlags := 33
  super := sup
  interfaces := #[]
  cf := none
  fields := #[]
  methods := #[]
  instanceTypes := #[]
  staticTypes := #[]
  resolved := #[]
  callSites := []
  init := .initialized
  statics := none
  mirror := none

def pool0 : Array CpInfo := pool [(5, u "<init>"), (0, u "()V"), (1, .class_ 10), (1, u "java/lang/Object")] 113

def k0m0 : Method := { name := "<init>", desc := "()V", sig := { parameters := [], returnType := none }, accessFlags := 1, code := none }
/-- java/lang/Object -/
def k0 : Class := { plain "java/lang/Object" none with
  accessFlags := 33
  interfaces := #[]
  cf := some (fileOf pool0 8 #[] #[{ accessFlags := 1, nameIndex := 5, descriptorIndex := 6, attributes := #[] }] 33 0 #[] #[])
  fields := #[]
  methods := #[k0m0]
  instanceTypes := #[]
  staticTypes := #[]
  resolved := Array.replicate 124 none
  statics := none }

def pool1 : Array CpInfo := pool [(2, .class_ 4), (1, u "java/lang/Object"), (0, u "<init>"), (0, u "()V"), (0, .methodref 8 9), (0, .class_ 10), (0, .nameAndType 11 12), (0, u "com/example/score_on_crawl/scoreoncrawl/engine/PageTreeBeforePinLaw"), (0, u "rank"), (0, u "(II)J"), (0, .methodref 14 15), (0, .class_ 16), (0, .nameAndType 17 18), (0, u "com/example/score_on_crawl/scoreoncrawl/engine/PageTree"), (0, u "before"), (0, u "(DIDI)Z"), (0, .long 2147483647), (3, u "law"), (0, u "(IIIII)Z")] 3

def k1m0 : Method := { name := "<init>", desc := "()V", sig := { parameters := [], returnType := none }, accessFlags := 1, code := none }
def k1c1 : Code := { maxStack := 6, maxLocals := 13, code := code, exceptionTable := #[], attributes := #[] }
def k1m1 : Method := { name := "law", desc := "(IIIII)Z", sig := { parameters := [.int, .int, .int, .int, .int], returnType := some .boolean }, accessFlags := 9, code := some k1c1 }
def k1c2 : Code := { maxStack := 6, maxLocals := 2, code := method_3_code, exceptionTable := #[], attributes := #[] }
def k1m2 : Method := { name := "rank", desc := "(II)J", sig := { parameters := [.int, .int], returnType := some .long }, accessFlags := 10, code := some k1c2 }
/-- com/example/score_on_crawl/scoreoncrawl/engine/PageTreeBeforePinLaw -/
def k1 : Class := { plain "com/example/score_on_crawl/scoreoncrawl/engine/PageTreeBeforePinLaw" (some 0) with
  accessFlags := 49
  interfaces := #[]
  cf := some (fileOf pool1 8 #[] #[{ accessFlags := 1, nameIndex := 5, descriptorIndex := 6, attributes := #[] }, { accessFlags := 9, nameIndex := 23, descriptorIndex := 24, attributes := #[] }, { accessFlags := 10, nameIndex := 11, descriptorIndex := 12, attributes := #[] }] 49 2 #[] #[])
  fields := #[]
  methods := #[k1m0, k1m1, k1m2]
  instanceTypes := #[]
  staticTypes := #[]
  resolved := Array.replicate 28 none
  statics := none }

def pool2 : Array CpInfo := pool [(2, .class_ 4), (1, u "java/lang/Object"), (3, .class_ 10), (1, u "com/example/score_on_crawl/scoreoncrawl/engine/PageTree"), (0, u "leaves"), (0, u "I"), (2, u "nodes"), (0, u "[I"), (2, u "key"), (0, u "Ljava/util/function/IntToDoubleFunction;"), (43, u "before"), (3, u "(DIDI)Z"), (0, u "NONE")] 18

def k2c0 : Code := { maxStack := 4, maxLocals := 6, code := prog_17_method_2_code, exceptionTable := #[], attributes := #[] }
def k2m0 : Method := { name := "before", desc := "(DIDI)Z", sig := { parameters := [.double, .int, .double, .int], returnType := some .boolean }, accessFlags := 8, code := some k2c0 }
/-- com/example/score_on_crawl/scoreoncrawl/engine/PageTree -/
def k2 : Class := { plain "com/example/score_on_crawl/scoreoncrawl/engine/PageTree" (some 0) with
  accessFlags := 48
  interfaces := #[]
  cf := some (fileOf pool2 8 #[] #[{ accessFlags := 8, nameIndex := 64, descriptorIndex := 68, attributes := #[] }] 48 2 #[] #[{ accessFlags := 26, nameIndex := 69, descriptorIndex := 12, attributes := #[] }, { accessFlags := 18, nameIndex := 19, descriptorIndex := 20, attributes := #[] }, { accessFlags := 2, nameIndex := 11, descriptorIndex := 12, attributes := #[] }, { accessFlags := 2, nameIndex := 15, descriptorIndex := 16, attributes := #[] }])
  fields := #[{ name := "NONE", type := .int, accessFlags := 26, slot := 0, constantValue := 0 }, { name := "key", type := (.object "java/util/function/IntToDoubleFunction"), accessFlags := 18, slot := 0, constantValue := 0 }, { name := "leaves", type := .int, accessFlags := 2, slot := 1, constantValue := 0 }, { name := "nodes", type := (.array .int), accessFlags := 2, slot := 2, constantValue := 0 }]
  methods := #[k2m0]
  instanceTypes := #[(.object "java/util/function/IntToDoubleFunction"), .int, (.array .int)]
  staticTypes := #[.int]
  resolved := Array.replicate 88 none
  statics := none }

def pool3 : Array CpInfo := pool [(1, u "java/lang/Cloneable"), (0, .class_ 1), (0, u "java/lang/Object"), (0, .class_ 3)] 3

/-- java/lang/Cloneable -/
def k3 : Class := { plain "java/lang/Cloneable" (some 0) with
  accessFlags := 1537
  interfaces := #[]
  cf := some (fileOf pool3 2 #[] #[] 1537 4 #[] #[])
  fields := #[]
  methods := #[]
  instanceTypes := #[]
  staticTypes := #[]
  resolved := Array.replicate 8 none
  statics := none }

def pool4 : Array CpInfo := pool [(1, u "java/io/Serializable"), (0, .class_ 1), (0, u "java/lang/Object"), (0, .class_ 3)] 3

/-- java/io/Serializable -/
def k4 : Class := { plain "java/io/Serializable" (some 0) with
  accessFlags := 1537
  interfaces := #[]
  cf := some (fileOf pool4 2 #[] #[] 1537 4 #[] #[])
  fields := #[]
  methods := #[]
  instanceTypes := #[]
  staticTypes := #[]
  resolved := Array.replicate 8 none
  statics := none }

/-- the primitive byte -/
def k5 : Class := { plain "byte" none with kind := .primitive 'B', accessFlags := 0x411 }
/-- [B -/
def k6 : Class := { plain "[B" (some 0) with kind := .array 5 .byte, interfaces := #[3, 4], accessFlags := 1041 }

/-- the primitive int -/
def k7 : Class := { plain "int" none with kind := .primitive 'I', accessFlags := 0x411 }
/-- [I -/
def k8 : Class := { plain "[I" (some 0) with kind := .array 7 .int, interfaces := #[3, 4], accessFlags := 1041 }

def heap : Heap := #[]
def classes : Array Class := #[k0, k1, k2, k3, k4, k5, k6, k7, k8]
def interned : List (Array UInt16 × Addr) := []
def slotsUsed : Nat := 0
def theMethod : MethodId := ⟨1, 1⟩
def args0 : Array Value := #[.int 5, .int 3, .int 3, .int 3, .int 3]
def aboutOver (below : List Frame) : State where
  vm := { classes := classes, interned := interned.toArray }
  heap := heap
  slotsUsed := slotsUsed
  threads := #[{ frames := .invoking theMethod args0 :: below }]
def below0 : List Frame := [.native { method := ⟨0, 0⟩, args := #[] }]
def about1 : State := aboutOver below0
def p0 : Program := .bare "" "" ""
def e0 : Env := launch0.env 0 0 0
theorem w_frames : about1.frames = Frame.invoking theMethod args0 :: below0 := rfl
set_option maxRecDepth 65536 in
theorem w_args : argsFit about1.vm theMethod args0 = true := by decide +kernel
set_option maxRecDepth 65536 in
theorem w_heap : heapFits about1 = true := by decide +kernel
set_option maxRecDepth 65536 in
theorem w_runnable : about1.curStatus? = some .runnable := by decide +kernel
set_option maxRecDepth 65536 in
theorem w_alone : about1.alone = true := by decide +kernel
set_option maxRecDepth 65536 in
theorem w_named : about1.methodNamed? x = some theMethod := by decide +kernel
set_option maxRecDepth 65536 in
theorem w_hears : about1.hears theMethod below0 = true := by decide +kernel
set_option maxRecDepth 65536 in
theorem w_ripe : about1.ripe theMethod args0 below0 = true := by decide +kernel
theorem w_running : about1.status = .running := rfl
set_option maxRecDepth 65536 in
theorem w_room : about1.hasRoom e0.platform room_1 = true :=
  launch0.hasRoom_least _ room_1 (by decide +kernel) (by decide +kernel) (by decide +kernel) (by decide +kernel) (by decide +kernel) (by decide +kernel)
theorem allAtoms_all (ts : List Jvm.Cond) (a : Array Jvm.Value) (st : Jvm.State) : (allAtoms ts).before a st = ts.all (fun c => c.before a st) := by
  induction ts with
  | nil => rfl
  | cons c t ih =>
    show (Jvm.Cond.and c (allAtoms t)).before a st = _
    rw [Jvm.Cond.before_and, ih, List.all_cons]
def words1 : List Jvm.Cond := Jvm.Cond.code x code maxLocals ret :: tables_1
/-- a 'code' word, met by the world's own term for the bytes: nothing is compared byte by byte -/
theorem code_word {y : MethodName} {bytes : ByteArray} {mx : Nat} {rt : Option FieldType} {a : Array Value} {s : State} {m : MethodId} {meth : Method} {c : Code} (h1 : s.methodNamed? y = some m) (h2 : s.vm.method? m = some meth) (h3 : meth.code = some c) (h4 : c.code = bytes)
    (h5 : (c.maxLocals == mx && c.exceptionTable.isEmpty && decide (c.maxStack ≤ mostOperands) && decide (meth.sig.returnType = rt) && !meth.locks && decide (parseMethodDescriptor y.desc = some meth.sig)) = true) : (Jvm.Cond.code y bytes mx rt).before a s = true := by
  simp only [Bool.and_eq_true, beq_iff_eq, Bool.not_eq_true', decide_eq_true_eq] at h5
  obtain ⟨⟨⟨⟨⟨g1, g2⟩, g3⟩, g4⟩, g5⟩, g6⟩ := h5
  simp [Cond.before, Cond.holds, Cond.value, h1, h2, h3, h4, g1, g2, g3, g4, g5, g6]
def isCode : Jvm.Cond → Bool
  | .code _ _ _ _ => true
  | _ => false
theorem all_split {L : List Jvm.Cond} {P : Jvm.Cond → Bool} (h1 : L.all (fun c => isCode c || P c) = true) (h2 : ∀ c ∈ L.filter isCode, P c = true) : L.all P = true := by
  refine List.all_eq_true.mpr fun c hc => ?_
  have h := List.all_eq_true.mp h1 c hc
  rcases Bool.eq_false_or_eq_true (isCode c) with hi | hi
  · exact h2 c (List.mem_filter.mpr ⟨hc, hi⟩)
  · simpa [hi] using h
set_option maxRecDepth 65536 in
theorem w_c0 : (Jvm.Cond.code x code maxLocals ret).before args0 about1 = true := code_word (m := ⟨1, 1⟩) (meth := k1m1) (c := k1c1) (by decide +kernel) rfl rfl rfl (by decide +kernel)
set_option maxRecDepth 65536 in
theorem w_c1 : (Jvm.Cond.code ({ cls := "com/example/score_on_crawl/scoreoncrawl/engine/PageTreeBeforePinLaw", name := "rank", desc := "(II)J" } : Jvm.MethodName) method_3_code (2 : Nat) (Option.some Jvm.ClassFile.FieldType.long)).before args0 about1 = true := code_word (m := ⟨1, 2⟩) (meth := k1m2) (c := k1c2) (by decide +kernel) rfl rfl rfl (by decide +kernel)
set_option maxRecDepth 65536 in
theorem w_c2 : (Jvm.Cond.code ({ cls := "com/example/score_on_crawl/scoreoncrawl/engine/PageTree", name := "before", desc := "(DIDI)Z" } : Jvm.MethodName) prog_17_method_2_code (6 : Nat) (Option.some Jvm.ClassFile.FieldType.boolean)).before args0 about1 = true := code_word (m := ⟨2, 0⟩) (meth := k2m0) (c := k2c0) (by decide +kernel) rfl rfl rfl (by decide +kernel)
def codes1 : List Jvm.Cond := [Jvm.Cond.code x code maxLocals ret, Jvm.Cond.code ({ cls := "com/example/score_on_crawl/scoreoncrawl/engine/PageTreeBeforePinLaw", name := "rank", desc := "(II)J" } : Jvm.MethodName) method_3_code (2 : Nat) (Option.some Jvm.ClassFile.FieldType.long), Jvm.Cond.code ({ cls := "com/example/score_on_crawl/scoreoncrawl/engine/PageTree", name := "before", desc := "(DIDI)Z" } : Jvm.MethodName) prog_17_method_2_code (6 : Nat) (Option.some Jvm.ClassFile.FieldType.boolean)]
set_option maxRecDepth 65536 in
theorem codes_eq : words1.filter isCode = codes1 := rfl
theorem w_codes : ∀ c ∈ words1.filter isCode, c.before args0 about1 = true := by
  rw [codes_eq]
  intro c hc
  simp only [codes1, List.mem_cons, List.not_mem_nil, or_false] at hc
  rcases hc with rfl | rfl | rfl
  · exact w_c0
  · exact w_c1
  · exact w_c2
set_option maxRecDepth 65536 in
theorem w_t1 : words1.all (fun c => isCode c || c.before args0 about1) = true := by decide +kernel
theorem w_tables : (allAtoms (Jvm.Cond.code x code maxLocals ret :: tables_1)).before args0 about1 = true := by
  rw [allAtoms_all]
  show words1.all (fun c => c.before args0 about1) = true
  refine all_split ?_ w_codes
  rw [w_t1]
set_option maxRecDepth 65536 in
theorem w_case : (Jvm.Cond.and given_1 narrow_1).before args0 about1 = true := by decide +kernel
theorem w_applies : (headSpec (Jvm.Cond.code x code maxLocals ret :: tables_1) room_1).applies x e0.platform about1 = true :=
  (Spec.applies_iff w_frames).mpr ⟨w_running, w_runnable, w_alone, w_named, w_hears, w_ripe, w_room, w_tables⟩
theorem atStart : AtStart classFile x code maxLocals ret World_1 tables_1 room_1 Calls_1 rest_1 Pre_1 launch0 p0 e0 about1 theMethod args0 below0 :=
  ⟨lists_1, trivial, launch0.admits_env _ _ _, launch0.least_env, fairChoices_fair.cas, fairChoices_fair.clock, w_frames, w_args, w_heap, w_applies, trivial, trivial, w_case⟩
end start1
theorem witness_1 : WitnessClaimed_1 := ⟨start1.p0, start1.e0, start1.about1, start1.theMethod, start1.args0, start1.below0, start1.atStart⟩
end Jvm.Pilot.@@N@@
