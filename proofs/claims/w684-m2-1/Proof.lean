import JvmDerived
import JvmDerived.Pilot.@@N@@Statement
import JvmDerived.Pilot.@@N@@Code
set_option linter.unusedVariables false
set_option linter.unusedSimpArgs false
namespace Jvm.RoadKit
open Sem ClassFile Op Lib Jvm.Stand Jvm.Free Jvm.LawKit
section OwnKit
variable {p : Program} {l : Launch} {e : Env} {R : Room} {s : State} {m : MethodId} {args : Array Value} {below : List Frame} {meth : Method} {c : Code} {T : State} {locs : List Loc} {cells slots : Nat} {Q : Option Value → Heap → List Loc → Prop} {rc rs : Nat}
theorem retI (X : Stand p l e R s m args below meth c T locs cells slots) (hx : p.tables.exec = Jvm.exec) {pc : Nat} {Ls : Array Slot} {z : Int32} {rest : List Value} (hret : meth.sig.returnType = some .int) (hd : decode c.code pc = .ok (.ireturn, 1)) {fs : List Frame}
    (hl : ∀ (f : JFrame) (acts : List Action), f.method = m → f.locked = none → f.entered = [] → (doReturn e (T.setTop f) acts (some (.int z))).1 = T.setFrames fs) : Steps p.tables e below (T.setTop (mkF m pc Ls (.int z :: rest))) (T.setFrames fs) := by
  have hm' : T.vm.method? m = some meth := X.method'
  have hn : narrow .int (.int z) = .int z := rfl
  show Steps p.tables e below (T.setTop { method := m, pc := pc, locals := Ls, stack := _ :: rest, locked := none }) _
  jvm_step X.here [X.here.top, hx, hd, hm', hret, hn]
  first | (intro acts; rw [hl _ acts rfl rfl rfl]) | rw [hl _ _ rfl rfl rfl]
  exact Steps.refl _
theorem own_retA (X : Stand p l e R s m args below meth c T locs cells slots) (hx : p.tables.exec = Jvm.exec) {pc : Nat} {Ls : Array Slot} {w : Value} {ty : FieldType} {rest : List Value} (hw : w.isRef = true) (hty : ty.isReference = true) (hret : meth.sig.returnType = some ty) (hd : decode c.code pc = .ok (.areturn, 1)) {fs : List Frame}
    (hl : ∀ (f : JFrame) (acts : List Action), f.method = m → f.locked = none → f.entered = [] → (doReturn e (T.setTop f) acts (some w)).1 = T.setFrames fs) : Steps p.tables e below (T.setTop (mkF m pc Ls (w :: rest))) (T.setFrames fs) := by
  have hm' : T.vm.method? m = some meth := X.method'
  show Steps p.tables e below (T.setTop { method := m, pc := pc, locals := Ls, stack := _ :: rest, locked := none }) _
  jvm_step X.here [X.here.top, hx, hd, hm', hret, hw, hty]
  first | (intro acts; rw [hl _ acts rfl rfl rfl]) | rw [hl _ _ rfl rfl rfl]
  exact Steps.refl _
theorem own_retL (X : Stand p l e R s m args below meth c T locs cells slots) (hx : p.tables.exec = Jvm.exec) {pc : Nat} {Ls : Array Slot} {z : Int64} {rest : List Value} (hret : meth.sig.returnType = some .long) (hd : decode c.code pc = .ok (.lreturn, 1)) {fs : List Frame}
    (hl : ∀ (f : JFrame) (acts : List Action), f.method = m → f.locked = none → f.entered = [] → (doReturn e (T.setTop f) acts (some (.long z))).1 = T.setFrames fs) : Steps p.tables e below (T.setTop (mkF m pc Ls (.long z :: rest))) (T.setFrames fs) := by
  have hm' : T.vm.method? m = some meth := X.method'
  show Steps p.tables e below (T.setTop { method := m, pc := pc, locals := Ls, stack := _ :: rest, locked := none }) _
  jvm_step X.here [X.here.top, hx, hd, hm', hret]
  first | (intro acts; rw [hl _ acts rfl rfl rfl]) | rw [hl _ _ rfl rfl rfl]
  exact Steps.refl _
theorem own_retDbl (X : Stand p l e R s m args below meth c T locs cells slots) (hx : p.tables.exec = Jvm.exec) {pc : Nat} {Ls : Array Slot} {z : UInt64} {rest : List Value} (hret : meth.sig.returnType = some .double) (hd : decode c.code pc = .ok (.dreturn, 1)) {fs : List Frame}
    (hl : ∀ (f : JFrame) (acts : List Action), f.method = m → f.locked = none → f.entered = [] → (doReturn e (T.setTop f) acts (some (.double z))).1 = T.setFrames fs) : Steps p.tables e below (T.setTop (mkF m pc Ls (.double z :: rest))) (T.setFrames fs) := by
  have hm' : T.vm.method? m = some meth := X.method'
  show Steps p.tables e below (T.setTop { method := m, pc := pc, locals := Ls, stack := _ :: rest, locked := none }) _
  jvm_step X.here [X.here.top, hx, hd, hm', hret]
  first | (intro acts; rw [hl _ acts rfl rfl rfl]) | rw [hl _ _ rfl rfl rfl]
  exact Steps.refl _
/-- what is left to be shown from the state A on: the run comes back, and Q holds of what it leaves -/
def OwnG (p : Program) (e : Env) (below : List Frame) (s : State) (Q : Option Value → Heap → List Loc → Prop) (rc rs : Nat) (A : State) : Prop :=
  ∃ s₂ o, Steps p.tables e below A s₂ ∧ s₂.status = .running ∧ Ended s₂ below o ∧ ∃ v L, o = .returned v ∧ Q v s₂.heap L ∧ FrameEnd s o s₂ L rc rs
theorem own_by {A B : State} (k : ∀ t, Steps p.tables e below B t → Steps p.tables e below A t) (h : OwnG p e below s Q rc rs B) : OwnG p e below s Q rc rs A := by
  obtain ⟨s₂, o, h1, r⟩ := h
  exact ⟨s₂, o, k _ h1, r⟩
theorem own_out (X : Stand p l e R s m args below meth c T locs cells slots) {v : Option Value} (hv : meth.sig.returnType = none → v = none) (hlk : meth.locks = false) {A : State}
    (k : ∀ fs, (∀ (f : JFrame) (acts : List Action), f.method = m → f.locked = none → f.entered = [] → (doReturn e (T.setTop f) acts v).1 = T.setFrames fs) → Steps p.tables e below A (T.setFrames fs)) (hQ : Q v T.heap locs) (hc : cells ≤ rc) (hs : slots ≤ rs) : OwnG p e below s Q rc rs A := by
  obtain ⟨fs, hr, hrun, hended, hW, hsame⟩ := X.leave (v := v) hv hlk
  exact ⟨_, _, k fs hr, hrun, hended, _, _, rfl, hQ, ⟨_, rfl⟩, hW, hsame.mono hc hs⟩
theorem own_outI (X : Stand p l e R s m args below meth c T locs cells slots) (hx : p.tables.exec = Jvm.exec) {pc : Nat} {Ls : Array Slot} {z : Int32} {rest : List Value} (hret : meth.sig.returnType = some .int) (hlk : meth.locks = false) (hd : decode c.code pc = .ok (.ireturn, 1)) (hQ : Q (some (.int z)) T.heap locs) (hc : cells ≤ rc) (hs : slots ≤ rs) :
    OwnG p e below s Q rc rs (T.setTop (mkF m pc Ls (.int z :: rest))) :=
  own_out X (v := some (.int z)) (fun h => by rw [hret] at h; cases h) hlk (fun fs hr => retI X hx hret hd hr) hQ hc hs
theorem own_outA (X : Stand p l e R s m args below meth c T locs cells slots) (hx : p.tables.exec = Jvm.exec) {pc : Nat} {Ls : Array Slot} {w : Value} {ty : FieldType} {rest : List Value} (hw : w.isRef = true) (hty : ty.isReference = true) (hret : meth.sig.returnType = some ty) (hlk : meth.locks = false) (hd : decode c.code pc = .ok (.areturn, 1)) (hQ : Q (some w) T.heap locs) (hc : cells ≤ rc) (hs : slots ≤ rs) :
    OwnG p e below s Q rc rs (T.setTop (mkF m pc Ls (w :: rest))) :=
  own_out X (v := some w) (fun h => by rw [hret] at h; cases h) hlk (fun fs hr => own_retA X hx hw hty hret hd hr) hQ hc hs
theorem own_outL (X : Stand p l e R s m args below meth c T locs cells slots) (hx : p.tables.exec = Jvm.exec) {pc : Nat} {Ls : Array Slot} {z : Int64} {rest : List Value} (hret : meth.sig.returnType = some .long) (hlk : meth.locks = false) (hd : decode c.code pc = .ok (.lreturn, 1)) (hQ : Q (some (.long z)) T.heap locs) (hc : cells ≤ rc) (hs : slots ≤ rs) :
    OwnG p e below s Q rc rs (T.setTop (mkF m pc Ls (.long z :: rest))) :=
  own_out X (v := some (.long z)) (fun h => by rw [hret] at h; cases h) hlk (fun fs hr => own_retL X hx hret hd hr) hQ hc hs
theorem own_outD (X : Stand p l e R s m args below meth c T locs cells slots) (hx : p.tables.exec = Jvm.exec) {pc : Nat} {Ls : Array Slot} {z : UInt64} {rest : List Value} (hret : meth.sig.returnType = some .double) (hlk : meth.locks = false) (hd : decode c.code pc = .ok (.dreturn, 1)) (hQ : Q (some (.double z)) T.heap locs) (hc : cells ≤ rc) (hs : slots ≤ rs) :
    OwnG p e below s Q rc rs (T.setTop (mkF m pc Ls (.double z :: rest))) :=
  own_out X (v := some (.double z)) (fun h => by rw [hret] at h; cases h) hlk (fun fs hr => own_retDbl X hx hret hd hr) hQ hc hs
theorem own_outV (X : Stand p l e R s m args below meth c T locs cells slots) (hx : p.tables.exec = Jvm.exec) {pc : Nat} {Ls : Array Slot} (hret : meth.sig.returnType = none) (hlk : meth.locks = false) (hd : decode c.code pc = .ok (.return_, 1)) (hQ : Q none T.heap locs) (hc : cells ≤ rc) (hs : slots ≤ rs) :
    OwnG p e below s Q rc rs (T.setTop (mkF m pc Ls [])) :=
  own_out X (v := none) (fun _ => rfl) hlk (fun fs hr => X.returnOut hx hret hd hr) hQ hc hs
theorem own_outN (X : Stand p l e R s m args below meth c T locs cells slots) (hx : p.tables.exec = Jvm.exec) {pc : Nat} {Ls : Array Slot} {z z' : Int32} {t : FieldType} {rest : List Value} (hret : meth.sig.returnType = some t) (ht : t = .boolean ∨ t = .byte ∨ t = .char ∨ t = .short) (hlk : meth.locks = false) (hd : decode c.code pc = .ok (.ireturn, 1)) (hz : nar t z = z') (hQ : Q (some (.int z')) T.heap locs) (hc : cells ≤ rc) (hs : slots ≤ rs) :
    OwnG p e below s Q rc rs (T.setTop (mkF m pc Ls (.int z :: rest))) := by
  subst hz
  exact own_out X (v := some (.int (nar t z))) (fun h => by rw [hret] at h; cases h) hlk (fun fs hr => retN X hx (t := t) hret (by rcases ht with rfl | rfl | rfl | rfl <;> simp) hd hr) hQ hc hs
theorem own_met {y : MethodName} {bytes : ByteArray} {maxL : Nat} {ret : Option FieldType} {rm : Room} {ws : List Cond} {as' : Array Value} {Z : State} {h0 : Heap} (hpl : plainFor y = true)
    (body : ∀ (p : Program) (e : Env) (s : State) (m : MethodId) (below : List Frame) (meth : Method) (c : Code) (s₁ : State), p.tables.exec = Jvm.exec → c.code = bytes → c.maxLocals = maxL → meth.sig.returnType = ret → meth.locks = false → s.vm.findClass y.cls = some m.cls → meth.name = y.name → Z.Warmed39 s.vm →
      Stand p l e rm s m as' below meth c s₁ [] 0 0 → s₁.heap = h0 → OwnG p e below s Q rm.cells rm.slots (s₁.setTop (entryFrame m as' maxL))) :
    MetFree l y (head1 (Cond.code y bytes maxL ret :: ws) rm) (fun a U => a = as' ∧ Z.Warmed39 U.vm ∧ U.heap = h0) (fun _ _ _ _ _ => True) (fun _ U o U' => ∃ v L, o = .returned v ∧ Q v U'.heap L ∧ FrameEnd U o U' L rm.cells rm.slots) := by
  refine MetFree.of_bodySF hpl hisR ?_
  intro p e s m args below meth c s₁ Bd hml0 hP hK
  obtain ⟨rfl, hZ, hh⟩ := hP
  have e0 : s₁.heap = h0 := by rw [← hh, Bd.state]; rfl
  exact body p e s m below meth c s₁ Bd.exec Bd.bytes hml0 Bd.returns Bd.notSynchronized (findClass_of_methodNamed Bd.named) (name_of_methodNamed Bd.named Bd.method).1 hZ (Stand.of_body Bd) e0
theorem own_pop2J {tb : Tables} [Ours tb] {target : State} {g : JFrame} (h : At T m c below) (hx : tb.exec = Jvm.exec) (hg : g.method = m) {x : Int64} {rest : List Value} (hd : decode c.code g.pc = .ok (.pop2, 1)) (hs : g.stack = .long x :: rest)
    (hr : Steps tb e below (T.setTop { g with pc := g.pc + 1, stack := rest }) target) : Steps tb e below (T.setTop g) target := by
  subst hg
  jvm_step h [h.top, hx, hd, hs, Value.category]
  exact hr
theorem own_dup2I {tb : Tables} [Ours tb] {target : State} {g : JFrame} (h : At T m c below) (hx : tb.exec = Jvm.exec) (hg : g.method = m) {x : Int32} {a : Addr} {rest : List Value} (hd : decode c.code g.pc = .ok (.dup2, 1)) (hs : g.stack = .int x :: .ref a :: rest)
    (hr : Steps tb e below (T.setTop { g with pc := g.pc + 1, stack := .int x :: .ref a :: .int x :: .ref a :: rest }) target) : Steps tb e below (T.setTop g) target := by
  subst hg
  jvm_step h [h.top, hx, hd, hs, Value.category]
  exact hr
theorem own_selp {Z s : State} {a0 args : Array Value} {y : MethodName} {n : Nat} (hZ : Z.Warmed39 s.vm) (wi : (Cond.instantiable y.cls n).before a0 Z = true) (wp : (Cond.privateMethod y).before a0 Z = true) (wm : (Cond.instanceMethod y).before a0 Z = true) (hy : y.cls ≠ "java/lang/invoke/MethodHandle" ∧ y.cls ≠ "java/lang/invoke/VarHandle") : (Cond.selects y.cls y y).before args s = true := by
  obtain ⟨c, k, h1, h2, -, h4, -⟩ := Cond.instantiable_spec (mv (args := args) hZ wi)
  exact selects_self_of_private h1 h2 (Bool.or_eq_false_iff.mp h4).1 (Cond.privateMethod_at (mvP hZ wp (args := #[]))) (mvT hZ wm) hy
end OwnKit
end Jvm.RoadKit
namespace Jvm.OwnFl
open Jvm Jvm.ClassFile Jvm.Op Jvm.FP Jvm.FP.Core Jvm.Free.Fl
/-- the double x is finite and worth v units of the least exponent -/
def ownV (x : UInt64) (v : Int) : Prop := ∃ s c q, val64 x = .fin s c q ∧ b64.qmin ≤ q ∧ signed s (inUnits c q b64.qmin) = v
def ownK : Nat := 2 ^ ((-1 : Int) - b64.qmin).toNat
theorem ownK_pos : 0 < ownK := Nat.two_pow_pos _
theorem two_K : 2 ^ ((0 : Int) - b64.qmin).toNat = 2 * ownK := by
  have : ((0 : Int) - b64.qmin).toNat = ((-1 : Int) - b64.qmin).toNat + 1 := by decide
  rw [this, Nat.pow_succ]; unfold ownK; exact Nat.mul_comm _ _
theorem signed_mul (s : Bool) (a k : Nat) : signed s (a * k) = signed s a * k := by
  cases s <;> simp [signed, Int.neg_mul]
theorem cmp_scale (x y : Int) (k : Nat) (hk : 0 < k) : compare (x * k) (y * k) = compare x y := by
  have hk' : (0 : Int) < k := by omega
  rcases Int.lt_trichotomy x y with h | h | h
  · rw [Int.compare_eq_lt.mpr h, Int.compare_eq_lt.mpr (Int.mul_lt_mul_of_pos_right h hk')]
  · subst h; rw [Int.compare_eq_eq.mpr rfl, Int.compare_eq_eq.mpr rfl]
  · rw [Int.compare_eq_gt.mpr h, Int.compare_eq_gt.mpr (Int.mul_lt_mul_of_pos_right h hk')]
theorem own_cmp {x y : UInt64} {v w : Int} (hx : ownV x v) (hy : ownV y w) : FP.dcmp x y = some (compare v w) := by
  obtain ⟨s, c, q, h1, h2, h3⟩ := hx
  obtain ⟨t, d, r, g1, g2, g3⟩ := hy
  have e : FP.dcmp x y = order (val64 x) (val64 y) := rfl
  rw [e, h1, g1]
  unfold order
  have m1 := inUnits_move c (q := q) (r := min q r) (e := b64.qmin) (by omega) (by omega)
  have m2 := inUnits_move d (q := r) (r := min q r) (e := b64.qmin) (by omega) (by omega)
  rw [m1, signed_mul] at h3
  rw [m2, signed_mul] at g3
  rw [← h3, ← g3, cmp_scale _ _ _ (Nat.two_pow_pos _)]
theorem own_lt {x y : UInt64} {v w : Int} (hx : ownV x v) (hy : ownV y w) (h : w ≤ v) (o : CmpOp) : ¬ cmpValue (FP.dcmp x y) o < 0 := by
  rw [own_cmp hx hy]
  rcases Int.lt_or_eq_of_le h with h | h
  · rw [Int.compare_eq_gt.mpr h]; cases o <;> decide
  · rw [Int.compare_eq_eq.mpr h.symm]; cases o <;> decide
theorem own_gt {x y : UInt64} {v w : Int} (hx : ownV x v) (hy : ownV y w) (h : v ≤ w) (o : CmpOp) : ¬ 0 < cmpValue (FP.dcmp x y) o := by
  rw [own_cmp hx hy]
  rcases Int.lt_or_eq_of_le h with h | h
  · rw [Int.compare_eq_lt.mpr h]; cases o <;> decide
  · rw [Int.compare_eq_eq.mpr h]; cases o <;> decide
theorem own_eq {x y : UInt64} {v w : Int} (hx : ownV x v) (hy : ownV y w) (h : v = w) (o : CmpOp) : cmpValue (FP.dcmp x y) o = 0 := by
  rw [own_cmp hx hy, Int.compare_eq_eq.mpr h]; cases o <;> decide
/-- the rounding of A / B (in whole units), against a threshold of halves -/
theorem own_round_le {s t : Bool} {A B c : Nat} {e q : Int} (hB : 0 < B) (h : roundRatio b64 s A B e = .fin t c q) (he : b64.qmin ≤ e) {c' : Nat} {q' : Int} (hc : c' < 2 ^ 53) (hq : b64.qmin ≤ q') :
    (inUnits A e b64.qmin ≤ inUnits c' q' b64.qmin * B → inUnits c q b64.qmin ≤ inUnits c' q' b64.qmin) ∧ (inUnits c' q' b64.qmin * B ≤ inUnits A e b64.qmin → inUnits c' q' b64.qmin ≤ inUnits c q b64.qmin) := by
  have n := roundRatio_nearest good_b64 (e0 := b64.qmin) hB h (c' := c') (q' := q') hc hq (Int.le_refl _) he
  unfold distance at n
  generalize inUnits A e b64.qmin = X at *
  generalize inUnits c q b64.qmin = R at *
  generalize inUnits c' q' b64.qmin = Y at *
  rw [← Int.natCast_mul, ← Int.natCast_mul] at n
  constructor
  · intro hx
    rcases Nat.lt_or_ge Y R with g | g
    · have : (Y + 1) * B ≤ R * B := Nat.mul_le_mul_right B g
      rw [Nat.add_mul, Nat.one_mul] at this
      omega
    · exact g
  · intro hx
    rcases Nat.lt_or_ge R Y with g | g
    · have : (R + 1) * B ≤ Y * B := Nat.mul_le_mul_right B g
      rw [Nat.add_mul, Nat.one_mul] at this
      omega
    · exact g
theorem own_sign {s : Bool} {A B : Nat} {e : Int} : (∃ c q, roundRatio b64 s A B e = .fin s c q) ∨ roundRatio b64 s A B e = .inf s := by
  unfold roundRatio
  split
  · exact Or.inl ⟨_, _, rfl⟩
  · unfold roundAt settle bound
    split <;> split <;> first | exact Or.inl ⟨_, _, rfl⟩ | exact Or.inr rfl
theorem own_rr {x : UInt64} (hf : Fin64 x) {s : Bool} {A B : Nat} {e : Int} (hB : 0 < B) (h : val64 x = roundRatio b64 s A B e) : ∃ c q, val64 x = .fin s c q ∧ roundRatio b64 s A B e = .fin s c q ∧ b64.qmin ≤ q := by
  obtain ⟨s', c', q', w⟩ := fin64_core.mp hf
  rcases own_sign (s := s) (A := A) (B := B) (e := e) with ⟨c, q, g⟩ | g
  · refine ⟨c, q, h.trans g, g, ?_⟩
    have := roundRatio_fits good_b64 s A hB e
    rw [g] at this
    exact this.2.1
  · rw [h, g] at w; cases w
theorem own_exact {x : UInt64} (hf : Fin64 x) {s : Bool} {A : Nat} {e : Int} (h : val64 x = roundRatio b64 s A 1 e) (he : b64.qmin ≤ e) {c' : Nat} {q' : Int} (hc : c' < 2 ^ 53) (hq : b64.qmin ≤ q') (hx : inUnits A e b64.qmin = inUnits c' q' b64.qmin) : ownV x (signed s (inUnits c' q' b64.qmin)) := by
  obtain ⟨c, q, h1, h2, h3⟩ := own_rr hf (by decide) h
  obtain ⟨l1, l2⟩ := own_round_le (by decide) h2 he hc hq
  rw [Nat.mul_one, hx] at l1 l2
  exact ⟨s, c, q, h1, h3, by rw [Nat.le_antisymm (l1 (Nat.le_refl _)) (l2 (Nat.le_refl _))]⟩
theorem own_l2d {a : Int64} (h1 : -9007199254740992 < a.toInt) (h2 : a.toInt < 9007199254740992) : ownV (FP.l2d a) (a.toInt * (2 * ownK : Nat)) := by
  have e : val64 (FP.l2d a) = roundRatio b64 (decide (a.toInt < 0)) a.toInt.natAbs 1 0 := by
    rw [show FP.l2d a = Core.l2d a from rfl, val64_l2d]; rfl
  have q := own_exact (l2d_fin a) e (by decide) (c' := a.toInt.natAbs) (q' := 0) (by omega) (by decide) rfl
  have u : inUnits a.toInt.natAbs 0 b64.qmin = a.toInt.natAbs * (2 * ownK) := by unfold inUnits; rw [two_K]
  rw [u, signed_mul] at q
  have : signed (decide (a.toInt < 0)) a.toInt.natAbs = a.toInt := by
    unfold signed
    by_cases g : a.toInt < 0
    · simp [g]; omega
    · simp [g]; omega
  rw [this] at q
  exact q
theorem own_add {x y : UInt64} {v w N : Int} (hx : ownV x v) (hy : ownV y w) (hf : Fin64 (FP.dadd x y)) (hN : v + w = N * (ownK : Nat)) (h1 : -9007199254740992 < N) (h2 : N < 9007199254740992) : ownV (FP.dadd x y) (v + w) := by
  obtain ⟨s, c, q, a1, a2, a3⟩ := hx
  obtain ⟨t, d, r, b1, b2, b3⟩ := hy
  have m1 := inUnits_move c (q := q) (r := min q r) (e := b64.qmin) (by omega) (by omega)
  have m2 := inUnits_move d (q := r) (r := min q r) (e := b64.qmin) (by omega) (by omega)
  have e : val64 (FP.dadd x y) = roundRatio b64 (sumSign s t (sumUnits s c q t d r (min q r))) (sumUnits s c q t d r (min q r)).natAbs 1 (min q r) := by
    rw [show FP.dadd x y = Core.dadd x y from rfl, val64_dadd, a1, b1]; rfl
  rw [m1, signed_mul] at a3
  rw [m2, signed_mul] at b3
  have hS : sumUnits s c q t d r (min q r) * ((2 ^ (min q r - b64.qmin).toNat : Nat) : Int) = v + w := by
    unfold sumUnits
    rw [Int.add_mul, a3, b3]
  generalize sumUnits s c q t d r (min q r) = S at *
  have hu : inUnits S.natAbs (min q r) b64.qmin = (v + w).natAbs := by
    unfold inUnits
    rw [← hS, Int.natAbs_mul]
    rfl
  have hk : inUnits N.natAbs (-1) b64.qmin = (v + w).natAbs := by
    unfold inUnits
    rw [hN, Int.natAbs_mul]
    rfl
  have z := own_exact hf e (by omega) (c' := N.natAbs) (q' := -1) (by omega) (by decide) (hu.trans hk.symm)
  rw [hk] at z
  have hp : (0 : Int) < ((2 ^ (min q r - b64.qmin).toNat : Nat) : Int) := by
    have := Nat.two_pow_pos (min q r - b64.qmin).toNat
    omega
  have : signed (sumSign s t S) (v + w).natAbs = v + w := by
    rcases Int.lt_trichotomy S 0 with g | g | g
    · have : v + w < 0 := by rw [← hS]; exact Int.mul_neg_of_neg_of_pos g hp
      have e1 : sumSign s t S = true := by unfold sumSign; rw [if_neg (by omega)]; exact decide_eq_true g
      rw [e1]; unfold signed; rw [if_pos rfl]; omega
    · subst g
      have : v + w = 0 := by rw [← hS, Int.zero_mul]
      rw [this]; unfold signed; split <;> rfl
    · have : 0 < v + w := by rw [← hS]; exact Int.mul_pos g hp
      have e1 : sumSign s t S = false := by unfold sumSign; rw [if_neg (by omega)]; exact decide_eq_false (by omega)
      rw [e1]; unfold signed; rw [if_neg (by decide)]; omega
  rw [this] at z
  exact z
theorem ac1 (c y U M k : Nat) : (c * y * U) * (M * k) = (c * (U * M)) * (y * k) := by ac_rfl
theorem ac2 (x d W M k : Nat) : (x * k) * (d * (W * M)) = (x * d * W) * (M * k) := by ac_rfl
theorem ac3 (x k : Nat) : x * (2 * k) = 2 * x * k := by ac_rfl
theorem ac4 (n b k : Nat) : n * b * k = n * k * b := by ac_rfl
/-- the quotient of two whole numbers, against any half -/
theorem own_div {a b : Int64} (ha1 : -9007199254740992 < a.toInt) (ha2 : a.toInt < 9007199254740992) (hb1 : 0 < b.toInt) (hb2 : b.toInt < 9007199254740992) : ∃ v, ownV (FP.ddiv (FP.l2d a) (FP.l2d b)) v ∧
    ∀ N : Int, -9007199254740992 < N → N < 9007199254740992 → (2 * a.toInt ≤ N * b.toInt → v ≤ N * (ownK : Nat)) ∧ (N * b.toInt ≤ 2 * a.toInt → N * (ownK : Nat) ≤ v) := by
  obtain ⟨s, c, q, a1, a2, a3⟩ := own_l2d ha1 ha2
  obtain ⟨t, d, r, b1, b2, b3⟩ := own_l2d (a := b) (by omega) hb2
  have hK := ownK_pos
  have hnz : b ≠ 0 := fun z => by rw [z] at hb1; revert hb1; decide
  have hfin : Fin64 (FP.ddiv (FP.l2d a) (FP.l2d b)) := (RoadKit.ddiv_mag (Free.Fl.l2d_mag a) (RoadKit.l2d_big hnz) (by decide) (by decide)).fin (by decide)
  have ht : t = false ∧ inUnits d r b64.qmin = b.toInt.natAbs * (2 * ownK) := by
    have p : 0 < b.toInt * ((2 * ownK : Nat) : Int) := Int.mul_pos hb1 (by omega)
    have p2 : (b.toInt.natAbs : Int) = b.toInt := by omega
    cases t
    · refine ⟨rfl, ?_⟩
      have : ((inUnits d r b64.qmin : Nat) : Int) = b.toInt * ((2 * ownK : Nat) : Int) := b3
      rw [← p2, ← Int.natCast_mul] at this
      exact Int.ofNat.inj this
    · exfalso
      have : -((inUnits d r b64.qmin : Nat) : Int) = b.toInt * ((2 * ownK : Nat) : Int) := b3
      omega
  obtain ⟨rfl, hd⟩ := ht
  have hc : inUnits c q b64.qmin = a.toInt.natAbs * (2 * ownK) ∧ (s = decide (a.toInt < 0) ∨ a.toInt = 0) := by
    rcases Int.lt_trichotomy a.toInt 0 with g | g | g
    · have p : a.toInt * ((2 * ownK : Nat) : Int) < 0 := Int.mul_neg_of_neg_of_pos g (by omega)
      have p2 : (a.toInt.natAbs : Int) = -a.toInt := by omega
      cases s
      · have : ((inUnits c q b64.qmin : Nat) : Int) = a.toInt * ((2 * ownK : Nat) : Int) := a3
        omega
      · have : -((inUnits c q b64.qmin : Nat) : Int) = a.toInt * ((2 * ownK : Nat) : Int) := a3
        have h2 : ((inUnits c q b64.qmin : Nat) : Int) = (a.toInt.natAbs : Int) * ((2 * ownK : Nat) : Int) := by rw [p2, Int.neg_mul]; omega
        rw [← Int.natCast_mul] at h2
        exact ⟨Int.ofNat.inj h2, Or.inl (decide_eq_true g).symm⟩
    · rw [g, Int.zero_mul] at a3
      refine ⟨?_, Or.inr g⟩
      rw [g]
      cases s
      · have : ((inUnits c q b64.qmin : Nat) : Int) = 0 := a3
        simp; omega
      · have : -((inUnits c q b64.qmin : Nat) : Int) = 0 := a3
        simp; omega
    · have p : 0 < a.toInt * ((2 * ownK : Nat) : Int) := Int.mul_pos g (by omega)
      have p2 : (a.toInt.natAbs : Int) = a.toInt := by omega
      cases s
      · have : ((inUnits c q b64.qmin : Nat) : Int) = a.toInt * ((2 * ownK : Nat) : Int) := a3
        rw [← p2, ← Int.natCast_mul] at this
        exact ⟨Int.ofNat.inj this, Or.inl (decide_eq_false (by omega)).symm⟩
      · have : -((inUnits c q b64.qmin : Nat) : Int) = a.toInt * ((2 * ownK : Nat) : Int) := a3
        omega
  obtain ⟨hc, hs⟩ := hc
  have hbn : 0 < b.toInt.natAbs := by omega
  have hd0 : d ≠ 0 := fun z => by
    subst z
    unfold inUnits at hd
    rw [Nat.zero_mul] at hd
    have := Nat.mul_pos hbn (show 0 < 2 * ownK by omega)
    omega
  have e : val64 (FP.ddiv (FP.l2d a) (FP.l2d b)) = roundRatio b64 s a.toInt.natAbs b.toInt.natAbs 0 := by
    rw [show FP.ddiv (FP.l2d a) (FP.l2d b) = Core.ddiv (FP.l2d a) (FP.l2d b) from rfl, val64_ddiv, a1, b1]
    unfold quotient
    dsimp only
    rw [if_neg hd0]
    have es : (s != false) = s := by cases s <;> rfl
    rw [es]
    refine roundRatio_congr (by omega) hbn ?_
    -- c * b * 2^(q-r) = a * d * 2^(r-q)
    unfold inUnits at hc hd
    have hp := Nat.two_pow_pos (min q r - b64.qmin).toNat
    have e1 : 2 ^ (q - b64.qmin).toNat = 2 ^ (q - r - 0).toNat * 2 ^ (min q r - b64.qmin).toNat := by rw [← Nat.pow_add]; congr 1; omega
    have e2 : 2 ^ (r - b64.qmin).toNat = 2 ^ (0 - (q - r)).toNat * 2 ^ (min q r - b64.qmin).toNat := by rw [← Nat.pow_add]; congr 1; omega
    rw [e1] at hc
    rw [e2] at hd
    generalize 2 ^ (q - r - 0).toNat = U at *
    generalize 2 ^ (0 - (q - r)).toNat = W at *
    generalize 2 ^ (min q r - b64.qmin).toNat = M at *
    generalize a.toInt.natAbs = x at *
    generalize b.toInt.natAbs = y at *
    -- hc : c * (U * M) = x * (2K); hd : d * (W * M) = y * (2K)
    have h3 : (c * y * U) * (M * (2 * ownK)) = (x * d * W) * (M * (2 * ownK)) := by
      calc (c * y * U) * (M * (2 * ownK)) = (c * (U * M)) * (y * (2 * ownK)) := ac1 _ _ _ _ _
        _ = (x * (2 * ownK)) * (d * (W * M)) := by rw [hc, hd]
        _ = (x * d * W) * (M * (2 * ownK)) := ac2 _ _ _ _ _
    exact Nat.eq_of_mul_eq_mul_right (Nat.mul_pos hp (by omega)) h3
  obtain ⟨c2, q2, g1, g2, g3⟩ := own_rr hfin hbn e
  refine ⟨signed s (inUnits c2 q2 b64.qmin), ⟨s, c2, q2, g1, g3, rfl⟩, fun N hN1 hN2 => ?_⟩
  obtain ⟨l1, l2⟩ := own_round_le hbn g2 (by decide) (c' := N.natAbs) (q' := -1) (by omega) (by decide)
  have u1 : inUnits a.toInt.natAbs 0 b64.qmin = a.toInt.natAbs * (2 * ownK) := by unfold inUnits; rw [two_K]
  have u2 : inUnits N.natAbs (-1) b64.qmin = N.natAbs * ownK := rfl
  rw [u1, u2] at l1 l2
  generalize inUnits c2 q2 b64.qmin = R at *
  -- in naturals: 2|a| vs |N| b
  have l1' : 2 * a.toInt.natAbs ≤ N.natAbs * b.toInt.natAbs → R ≤ N.natAbs * ownK := fun z => l1 (by
    have := Nat.mul_le_mul_right ownK z
    calc a.toInt.natAbs * (2 * ownK) = 2 * a.toInt.natAbs * ownK := ac3 _ _
      _ ≤ N.natAbs * b.toInt.natAbs * ownK := this
      _ = N.natAbs * ownK * b.toInt.natAbs := ac4 _ _ _)
  have l2' : N.natAbs * b.toInt.natAbs ≤ 2 * a.toInt.natAbs → N.natAbs * ownK ≤ R := fun z => l2 (by
    have := Nat.mul_le_mul_right ownK z
    calc N.natAbs * ownK * b.toInt.natAbs = N.natAbs * b.toInt.natAbs * ownK := (ac4 _ _ _).symm
      _ ≤ 2 * a.toInt.natAbs * ownK := this
      _ = a.toInt.natAbs * (2 * ownK) := (ac3 _ _).symm)
  clear l1 l2 u1 u2 hc hd a3 b3 e g1 g2 g3 hfin a1 b1 a2 b2
  have hb' : (b.toInt.natAbs : Int) = b.toInt := by omega
  generalize ownK = K at *
  have hNb : (N * b.toInt).natAbs = N.natAbs * b.toInt.natAbs := Int.natAbs_mul _ _
  have hNK : (N * (K : Int)).natAbs = N.natAbs * K := by rw [Int.natAbs_mul]; rfl
  have sg1 : 0 ≤ N → 0 ≤ N * b.toInt ∧ 0 ≤ N * (K : Int) := fun z => ⟨Int.mul_nonneg z (by omega), Int.mul_nonneg z (by omega)⟩
  have sg2 : N ≤ 0 → N * b.toInt ≤ 0 ∧ N * (K : Int) ≤ 0 := fun z => ⟨Int.mul_nonpos_of_nonpos_of_nonneg z (by omega), Int.mul_nonpos_of_nonpos_of_nonneg z (by omega)⟩
  have sg3 : N < 0 → N * b.toInt < 0 := fun z => Int.mul_neg_of_neg_of_pos z hb1
  have sg4 : 0 < N → 0 < N * b.toInt := fun z => Int.mul_pos z hb1
  rw [← hNb, ← hNK] at l1' l2'
  generalize N * b.toInt = P at *
  generalize N * (K : Int) = Q at *
  have hsv : (signed s R = (R : Int) ∧ 0 ≤ a.toInt) ∨ (signed s R = -(R : Int) ∧ a.toInt ≤ 0) := by
    cases s
    · refine Or.inl ⟨rfl, ?_⟩
      rcases hs with z | z
      · have := of_decide_eq_false z.symm; omega
      · omega
    · refine Or.inr ⟨rfl, ?_⟩
      rcases hs with z | z
      · have := of_decide_eq_true z.symm; omega
      · omega
  rcases hsv with ⟨hv, ha⟩ | ⟨hv, ha⟩
  · rw [hv]
    rcases Int.le_total 0 N with g | g
    · have := sg1 g
      exact ⟨fun z => by have := l1' (by omega); omega, fun z => by have := l2' (by omega); omega⟩
    · have s2 := sg2 g
      refine ⟨fun z => ?_, fun z => by omega⟩
      have : R ≤ Q.natAbs := l1' (by omega)
      rcases Int.lt_or_eq_of_le g with g' | g'
      · have := sg3 g'; omega
      · have := (sg1 (by omega)).2; omega
  · rw [hv]
    rcases Int.le_total N 0 with g | g
    · have := sg2 g
      exact ⟨fun z => by have := l2' (by omega); omega, fun z => by have := l1' (by omega); omega⟩
    · have s2 := sg1 g
      refine ⟨fun z => by omega, fun z => ?_⟩
      have : R ≤ Q.natAbs := l1' (by omega)
      rcases Int.lt_or_eq_of_le g with g' | g'
      · have := sg4 g'; omega
      · have := (sg2 (by omega)).2; omega
end Jvm.OwnFl
namespace Jvm.Pilot.@@N@@
open Jvm Jvm.ClassFile Sem Op Lib Jvm.Free Jvm.Stand Jvm.LawKit Jvm.RoadKit Bundle Jvm.Pilot.@@N@@.Jvm.D
open Jvm.FP Jvm.Free.Fl Jvm.OwnFl
theorem own_half : ownV 4602678819172646912 (1 * (ownK : Nat)) := by
  refine ⟨false, 2 ^ 52, -53, by decide, by decide, ?_⟩
  unfold Core.signed Core.inUnits ownK
  rw [if_neg (by decide), ← Nat.pow_add, Int.one_mul]
  have : 52 + ((-53 : Int) - Core.b64.qmin).toNat = ((-1 : Int) - Core.b64.qmin).toNat := by decide
  rw [this]
theorem own_one : ownV FP.dconst1 (2 * (ownK : Nat)) := by
  refine ⟨false, 2 ^ 52, -52, by decide, by decide, ?_⟩
  unfold Core.signed Core.inUnits
  rw [if_neg (by decide), ← Nat.pow_add]
  have : 52 + ((-52 : Int) - Core.b64.qmin).toNat = ((0 : Int) - Core.b64.qmin).toNat := by decide
  rw [this, two_K]
  omega
theorem own_fh (q : Int64) : Fin64 (FP.dadd (FP.l2d q) 4602678819172646912) := (dadd_mag (l2d_mag q) (K := 1088) (by unfold Mag64; decide) (by decide)).fin (by decide)
theorem own_f1 (q : Int64) : Fin64 (FP.dadd (FP.l2d q) FP.dconst1) := (dadd_mag (l2d_mag q) (K := 1088) (by unfold Mag64; decide) (by decide)).fin (by decide)
theorem own_k2 (q K : Int) : q * (2 * K) = 2 * q * K := by rw [← Int.mul_assoc, Int.mul_comm q 2]
theorem own_lo {q : Int64} (h1 : -1099511627776 < q.toInt) (h2 : q.toInt < 1099511627776) : ownV (FP.l2d q) (2 * q.toInt * (ownK : Nat)) := by
  have := own_l2d (a := q) (by omega) (by omega)
  rw [Int.natCast_mul] at this
  rw [← own_k2]
  exact this
theorem own_mid {q : Int64} (h1 : -1099511627776 < q.toInt) (h2 : q.toInt < 1099511627776) : ownV (FP.dadd (FP.l2d q) 4602678819172646912) ((2 * q.toInt + 1) * (ownK : Nat)) := by
  have e := Int.add_mul (2 * q.toInt) 1 (ownK : Nat)
  have := own_add (own_lo h1 h2) own_half (own_fh q) (N := 2 * q.toInt + 1) e.symm (by omega) (by omega)
  rw [← e] at this
  exact this
theorem own_hi {q : Int64} (h1 : -1099511627776 < q.toInt) (h2 : q.toInt < 1099511627776) : ownV (FP.dadd (FP.l2d q) FP.dconst1) ((2 * q.toInt + 2) * (ownK : Nat)) := by
  have e := Int.add_mul (2 * q.toInt) 2 (ownK : Nat)
  have := own_add (own_lo h1 h2) own_one (own_f1 q) (N := 2 * q.toInt + 2) e.symm (by omega) (by omega)
  rw [← e] at this
  exact this
theorem own_avg {q tok r : Int64} {d : Int32} (hd : 0 < d.toInt) (hT : tok.toInt = q.toInt * d.toInt + r.toInt) (hb1 : -9007199254740992 < tok.toInt) (hb2 : tok.toInt < 9007199254740992) (h1 : -1099511627776 < q.toInt) (h2 : q.toInt < 1099511627776) (hr1 : 0 ≤ r.toInt) (hr2 : r.toInt < d.toInt) :
    ∃ va, ownV (FP.ddiv (FP.l2d tok) (FP.i2d d)) va ∧ 2 * q.toInt * (ownK : Nat) ≤ va ∧ va ≤ (2 * q.toInt + 2) * (ownK : Nat) ∧ (r.toInt = 0 → va = 2 * q.toInt * (ownK : Nat)) ∧ (2 * r.toInt < d.toInt → va ≤ (2 * q.toInt + 1) * (ownK : Nat)) ∧ (d.toInt < 2 * r.toInt → (2 * q.toInt + 1) * (ownK : Nat) ≤ va) ∧ (2 * r.toInt = d.toInt → va = (2 * q.toInt + 1) * (ownK : Nat)) := by
  rw [i2d_w]
  have ed : d.toInt64.toInt = d.toInt := Int32.toInt_toInt64 d
  have dr := rng32 d
  obtain ⟨va, hva, hN⟩ := own_div (a := tok) (b := d.toInt64) hb1 hb2 (by omega) (by omega)
  refine ⟨va, hva, ?_⟩
  obtain ⟨l1, l2⟩ := hN (2 * q.toInt) (by omega) (by omega)
  obtain ⟨m1, m2⟩ := hN (2 * q.toInt + 1) (by omega) (by omega)
  obtain ⟨n1, n2⟩ := hN (2 * q.toInt + 2) (by omega) (by omega)
  rw [ed] at l1 l2 m1 m2 n1 n2
  have e0 : 2 * q.toInt * d.toInt = 2 * (q.toInt * d.toInt) := Int.mul_assoc _ _ _
  have e1 : (2 * q.toInt + 1) * d.toInt = 2 * (q.toInt * d.toInt) + d.toInt := by rw [Int.add_mul, e0, Int.one_mul]
  have e2 : (2 * q.toInt + 2) * d.toInt = 2 * (q.toInt * d.toInt) + 2 * d.toInt := by rw [Int.add_mul, e0]
  rw [e0] at l1 l2
  rw [e1] at m1 m2
  rw [e2] at n1 n2
  generalize q.toInt * d.toInt = P at *
  generalize 2 * q.toInt * ((ownK : Nat) : Int) = A at *
  generalize (2 * q.toInt + 1) * ((ownK : Nat) : Int) = B at *
  generalize (2 * q.toInt + 2) * ((ownK : Nat) : Int) = C at *
  rw [hT] at *
  exact ⟨l2 (by omega), n1 (by omega), fun z => Int.le_antisymm (l1 (by omega)) (l2 (by omega)), fun z => m1 (by omega), fun z => m2 (by omega), fun z => Int.le_antisymm (m1 (by omega)) (m2 (by omega))⟩
theorem own_nan {tok : Int64} {d : Int32} (hd : ¬ d = 0) : NoNaN64 (FP.ddiv (FP.l2d tok) (FP.i2d d)) := by
  rw [i2d_w]
  have hz : d.toInt64 ≠ 0 := fun q => hd (by
    have := congrArg Int64.toInt q
    rw [Int32.toInt_toInt64] at this
    exact Int32.toInt_inj.mp (by rw [this]; decide))
  exact ((ddiv_mag (l2d_mag tok) (l2d_big hz) (by decide) (by decide)).fin (by decide)).noNaN
theorem own_irem (x y : Int32) : x - (x / y) * y = x % y := Jvm.irem_eq_mod x y
theorem own_r (x d : Int32) (hd : 0 < d.toInt) : 0 ≤ (((x &&& 2147483647) - ((x &&& 2147483647) / d) * d).toInt64).toInt ∧ (((x &&& 2147483647) - ((x &&& 2147483647) / d) * d).toInt64).toInt < d.toInt := by
  have h : 0 ≤ (x &&& 2147483647).toInt := by
    rw [c_mask x 2147483647 31 (by decide) (by decide)]
    exact Int.emod_nonneg _ (by decide)
  have e := (c_irem (x &&& 2147483647) d d.toInt rfl).1 h
  rw [Int32.toInt_toInt64, own_irem, e]
  exact ⟨Int.emod_nonneg _ (by omega), Int.emod_lt_of_pos _ hd⟩
theorem own_pos {d : Int32} (h : 0 ≤ d.toInt) (h0 : ¬ d = 0) : 0 < d.toInt := by
  have : d.toInt ≠ 0 := fun q => h0 (Int32.toInt_inj.mp (by rw [q]; decide))
  omega
/-- the bounds on the quotient and the number of documents -/
def ownB (q : Int64) (d : Int32) : Prop := 0 ≤ d.toInt ∧ -1099511627776 < q.toInt ∧ q.toInt < 1099511627776 ∧ -4503599627370496 ≤ q.toInt * d.toInt ∧ q.toInt * d.toInt ≤ 4503599627370496
theorem own_tok {q r : Int64} {d : Int32} (hB : ownB q d) (h0 : 0 ≤ r.toInt) (h1 : r.toInt < d.toInt) : (q * d.toInt64 + r).toInt = q.toInt * d.toInt + r.toInt ∧ -9007199254740992 < (q * d.toInt64 + r).toInt ∧ (q * d.toInt64 + r).toInt < 9007199254740992 := by
  obtain ⟨b0, b1, b2, b3, b4⟩ := hB
  have e1 := c_lmul q d.toInt64
  have e2 := c_ladd (q * d.toInt64) r
  rw [Int32.toInt_toInt64] at e1
  have r1 := rng64 (q * d.toInt64)
  have r2 := rng64 (q * d.toInt64 + r)
  have r3 := rng32 d
  generalize q.toInt * d.toInt = P at *
  have : (q * d.toInt64).toInt = P := by omega
  rw [this] at e2
  have : (q * d.toInt64 + r).toInt = P + r.toInt := by omega
  exact ⟨this, by omega, by omega⟩
theorem own_Bs (x y : Int32) : ownB y.toInt64 (x &&& 1048575) := by
  have e := c_mask x 1048575 20 (by decide) (by decide)
  have a1 := Int.emod_nonneg x.toInt (show ((2 ^ 20 : Nat) : Int) ≠ 0 from by decide)
  have a2 := Int.emod_lt_of_pos x.toInt (show (0 : Int) < ((2 ^ 20 : Nat) : Int) from by decide)
  have r := rng32 y
  unfold ownB
  rw [Int32.toInt_toInt64, e]
  generalize x.toInt % ((2 ^ 20 : Nat) : Int) = D at *
  have p1 : y.toInt * D ≤ 2147483648 * D := Int.mul_le_mul_of_nonneg_right (by omega) a1
  have p2 : -2147483648 * D ≤ y.toInt * D := Int.mul_le_mul_of_nonneg_right (by omega) a1
  refine ⟨a1, by omega, by omega, ?_, ?_⟩
  · have : D < 1048576 := a2
    omega
  · have : D < 1048576 := a2
    omega
theorem own_Bl (x y : Int32) : ownB (y >>> ((10 : Int32) &&& 31)).toInt64 (x &&& 2147483647) := by
  have e := c_mask x 2147483647 31 (by decide) (by decide)
  have a1 := Int.emod_nonneg x.toInt (show ((2 ^ 31 : Nat) : Int) ≠ 0 from by decide)
  have a2 := Int.emod_lt_of_pos x.toInt (show (0 : Int) < ((2 ^ 31 : Nat) : Int) from by decide)
  have r := rng32 y
  have s := c_ishr y 10 10 (by decide)
  unfold ownB
  rw [Int32.toInt_toInt64, e, s]
  generalize x.toInt % ((2 ^ 31 : Nat) : Int) = D at *
  have s1 : y.toInt / ((2 ^ 10 : Nat) : Int) ≤ 2097151 := by show y.toInt / 1024 ≤ _; omega
  have s2 : -2097152 ≤ y.toInt / ((2 ^ 10 : Nat) : Int) := by show _ ≤ y.toInt / 1024; omega
  generalize y.toInt / ((2 ^ 10 : Nat) : Int) = Y at *
  have p1 : Y * D ≤ 2097151 * D := Int.mul_le_mul_of_nonneg_right s1 a1
  have p2 : -2097152 * D ≤ Y * D := Int.mul_le_mul_of_nonneg_right s2 a1
  have : D < 2147483648 := a2
  exact ⟨a1, by omega, by omega, by omega, by omega⟩
theorem d1_0 : decode prog_48_method_1_code 0 = .ok (.aload_n 0, 1) := by decide +kernel
theorem d1_1 : decode prog_48_method_1_code 1 = .ok (.invokespecial 1, 3) := by decide +kernel
theorem d1_4 : decode prog_48_method_1_code 4 = .ok (.aload_n 0, 1) := by decide +kernel
theorem d1_5 : decode prog_48_method_1_code 5 = .ok (.iload_n 1, 1) := by decide +kernel
theorem d1_6 : decode prog_48_method_1_code 6 = .ok (.putfield 7, 3) := by decide +kernel
theorem d1_9 : decode prog_48_method_1_code 9 = .ok (.aload_n 0, 1) := by decide +kernel
theorem d1_10 : decode prog_48_method_1_code 10 = .ok (.iload_n 2, 1) := by decide +kernel
theorem d1_11 : decode prog_48_method_1_code 11 = .ok (.putfield 13, 3) := by decide +kernel
theorem d1_14 : decode prog_48_method_1_code 14 = .ok (.aload_n 0, 1) := by decide +kernel
theorem d1_15 : decode prog_48_method_1_code 15 = .ok (.lload_n 3, 1) := by decide +kernel
theorem d1_16 : decode prog_48_method_1_code 16 = .ok (.putfield 16, 3) := by decide +kernel
theorem d1_19 : decode prog_48_method_1_code 19 = .ok (.aload_n 0, 1) := by decide +kernel
theorem d1_20 : decode prog_48_method_1_code 20 = .ok (.iload 5, 2) := by decide +kernel
theorem d1_22 : decode prog_48_method_1_code 22 = .ok (.putfield 20, 3) := by decide +kernel
theorem d1_25 : decode prog_48_method_1_code 25 = .ok (.aload_n 0, 1) := by decide +kernel
theorem d1_26 : decode prog_48_method_1_code 26 = .ok (.lload 6, 2) := by decide +kernel
theorem d1_28 : decode prog_48_method_1_code 28 = .ok (.putfield 23, 3) := by decide +kernel
theorem d1_31 : decode prog_48_method_1_code 31 = .ok (.return_, 1) := by decide +kernel
theorem pn_0 : plainName "com/example/iota_ranker/iotaranker/index/CollectionStatistics" = true := by first | (simp [plainName, overriddenIn]; done) | decide +kernel
theorem pd_0 : parseMethodDescriptor "()V" = some ⟨[], none⟩ := by decide +kernel
theorem ef_1 (m : MethodId) (x0 : Addr) (x1 : Int32) (x2 : Int32) (x3 : Int64) (x4 : Int32) (x5 : Int64) : entryFrame m #[(.ref x0), (.int x1), (.int x2), (.long x3), (.int x4), (.long x5)] 8 = mkF m 0 #[.val (.ref x0), .val (.int x1), .val (.int x2), .val (.long x3), .second, .val (.int x4), .val (.long x5), .second] [] := by first | (simp [entryFrame, mkF, argsToLocals, Value.category]; done) | rfl
def Q1 (Z : State) (a1 : Addr) (d1 em1 : Int32) (t1 : Int64) (m1 : Int32) (q1 : Int64) (h0 : Heap) (n0 : Nat) (v : Option Value) (h : Heap) (L : List Loc) : Prop := v = none ∧ Fr n0 L ∧ Exa Z h a1 "com/example/iota_ranker/iotaranker/index/CollectionStatistics" ∧ Fld Z h a1 "com/example/iota_ranker/iotaranker/index/CollectionStatistics" "documents" "I" (.int d1) ∧ Fld Z h a1 "com/example/iota_ranker/iotaranker/index/CollectionStatistics" "tokens" "J" (.long t1)
set_option maxRecDepth 65536 in
set_option maxHeartbeats 40000000 in
theorem rm1 (l : Launch) (Z : State) (a0 : Array Value) (hw : ∀ d ∈ tables_1, d.before a0 Z = true) (ws : List Jvm.Cond) (a1 : Addr) (d1 em1 : Int32) (t1 : Int64) (m1 : Int32) (q1 : Int64) (h0 : Heap) (n0 : Nat) (Z0 : n0 ≤ h0.size) (EX : Exa Z h0 a1 "com/example/iota_ranker/iotaranker/index/CollectionStatistics") (Fdocuments : Fld Z h0 a1 "com/example/iota_ranker/iotaranker/index/CollectionStatistics" "documents" "I" (.int 0)) (FemptyDocuments : Fld Z h0 a1 "com/example/iota_ranker/iotaranker/index/CollectionStatistics" "emptyDocuments" "I" (.int 0)) (Ftokens : Fld Z h0 a1 "com/example/iota_ranker/iotaranker/index/CollectionStatistics" "tokens" "J" (.long 0)) (Fterms : Fld Z h0 a1 "com/example/iota_ranker/iotaranker/index/CollectionStatistics" "terms" "I" (.int 0)) (Fpostings : Fld Z h0 a1 "com/example/iota_ranker/iotaranker/index/CollectionStatistics" "postings" "J" (.long 0)) (g1 : n0 ≤ a1) :
    MetFree l (⟨"com/example/iota_ranker/iotaranker/index/CollectionStatistics", "<init>", "(IIJIJ)V"⟩ : MethodName) (head1 (Jvm.Cond.code (⟨"com/example/iota_ranker/iotaranker/index/CollectionStatistics", "<init>", "(IIJIJ)V"⟩ : MethodName) prog_48_method_1_code 8 none :: ws) ({ frames := 1, cells := 0, slots := 0, locals := 12 } : Room)) (fun aa_ U => aa_ = #[(.ref a1), (.int d1), (.int em1), (.long t1), (.int m1), (.long q1)] ∧ Z.Warmed39 U.vm ∧ U.heap = h0) (fun _ _ _ _ _ => True) (fun _ U o U' => ∃ v L, o = .returned v ∧ Q1 Z a1 d1 em1 t1 m1 q1 h0 n0 v U'.heap L ∧ FrameEnd U o U' L ({ frames := 1, cells := 0, slots := 0, locals := 12 } : Room).cells ({ frames := 1, cells := 0, slots := 0, locals := 12 } : Room).slots) := by
  refine own_met (Q := fun v h L => Q1 Z a1 d1 em1 t1 m1 q1 h0 n0 v h L) (plainFor_of_name pn_0) ?_
  intro p e s m below meth c s₁ hx hby hml hret hlk hown hnm hZ X0 e0
  have N0 := Fr.nil n0
  rw [ef_1 m a1 d1 em1 t1 m1 q1]
  show OwnG p e below s _ _ _ (s₁.setTop (mkF m 0 #[.val (.ref a1), .val (.int d1), .val (.int em1), .val (.long t1), .second, .val (.int m1), .val (.long q1), .second] []))
  refine own_by (fun t kk_ => XS.aloadN X0.here hx rfl (hb hby d1_0) rfl rfl kk_) ?_
  show OwnG p e below s _ _ _ (s₁.setTop (mkF m 1 #[.val (.ref a1), .val (.int d1), .val (.int em1), .val (.long t1), .second, .val (.int m1), .val (.long q1), .second] [(.ref a1)]))
  obtain ⟨T1, X1, e1, st1⟩ := initO X0 hx hZ hown (hw _ (List.mem_of_getElem? (i := 7) rfl)) (hw _ (List.mem_of_getElem? (i := 8) rfl)) (hw _ (List.mem_of_getElem? (i := 9) rfl)) e0 (g := (mkF m 1 #[.val (.ref a1), .val (.int d1), .val (.int em1), .val (.long t1), .second, .val (.int m1), .val (.long q1), .second] [(.ref a1)])) rfl (by rw [hml]; rfl) rfl (hb hby d1_1) (by decide) (W := 0) (by show 2 * 0 + _ ≤ _; exact Nat.le_of_eq rfl) (by decide)
  refine own_by (fun t kk_ => st1 _ kk_) ?_
  show OwnG p e below s _ _ _ (T1.setTop (mkF m 4 #[.val (.ref a1), .val (.int d1), .val (.int em1), .val (.long t1), .second, .val (.int m1), .val (.long q1), .second] []))
  refine own_by (fun t kk_ => XS.aloadN X1.here hx rfl (hb hby d1_4) rfl rfl kk_) ?_
  show OwnG p e below s _ _ _ (T1.setTop (mkF m 5 #[.val (.ref a1), .val (.int d1), .val (.int em1), .val (.long t1), .second, .val (.int m1), .val (.long q1), .second] [(.ref a1)]))
  refine own_by (fun t kk_ => XS.iloadN X1.here hx rfl (hb hby d1_5) rfl  kk_) ?_
  show OwnG p e below s _ _ _ (T1.setTop (mkF m 6 #[.val (.ref a1), .val (.int d1), .val (.int em1), .val (.long t1), .second, .val (.int m1), .val (.long q1), .second] [(.int d1), (.ref a1)]))
  obtain ⟨T2, h2, X2, e2, W2, st2⟩ := putF X1 hx hZ hown (host := "") (Or.inl (hw _ (List.mem_of_getElem? (i := 10) rfl))) Via.refl e1 Fdocuments EX (Or.inr ⟨(hw _ (List.mem_of_getElem? (i := 11) rfl)), rfl, hnm⟩) (hw _ (List.mem_of_getElem? (i := 2) rfl)) (ty := .int) (by decide) rfl rfl (g := (mkF m 6 #[.val (.ref a1), .val (.int d1), .val (.int em1), .val (.long t1), .second, .val (.int m1), .val (.long q1), .second] [(.int d1), (.ref a1)])) rfl rfl (hb hby d1_6)
  refine own_by (fun t kk_ => st2 _ kk_) ?_
  have f3 := Exa.wr W2 EX
  have f5 := Fld.other W2 FemptyDocuments (Or.inr (slot_ne (Or.inr (hw _ (List.mem_of_getElem? (i := 13) rfl))) (Or.inr (hw _ (List.mem_of_getElem? (i := 11) rfl))) (by decide) (t := .int) (t' := .int) (by decide) (by decide)))
  have f6 := Fld.other W2 Ftokens (Or.inr (slot_ne (Or.inr (hw _ (List.mem_of_getElem? (i := 15) rfl))) (Or.inr (hw _ (List.mem_of_getElem? (i := 11) rfl))) (by decide) (t := .long) (t' := .int) (by decide) (by decide)))
  have f7 := Fld.other W2 Fterms (Or.inr (slot_ne (Or.inr (hw _ (List.mem_of_getElem? (i := 17) rfl))) (Or.inr (hw _ (List.mem_of_getElem? (i := 11) rfl))) (by decide) (t := .int) (t' := .int) (by decide) (by decide)))
  have f8 := Fld.other W2 Fpostings (Or.inr (slot_ne (Or.inr (hw _ (List.mem_of_getElem? (i := 19) rfl))) (Or.inr (hw _ (List.mem_of_getElem? (i := 11) rfl))) (by decide) (t := .long) (t' := .int) (by decide) (by decide)))
  have f9 := Fld.same W2 Fdocuments
  have N2 := Fr.snoc X2 N0 g1
  have sz2 : n0 ≤ h2.size := by rw [W2.size]; exact Z0
  show OwnG p e below s _ _ _ (T2.setTop (mkF m 9 #[.val (.ref a1), .val (.int d1), .val (.int em1), .val (.long t1), .second, .val (.int m1), .val (.long q1), .second] []))
  refine own_by (fun t kk_ => XS.aloadN X2.here hx rfl (hb hby d1_9) rfl rfl kk_) ?_
  show OwnG p e below s _ _ _ (T2.setTop (mkF m 10 #[.val (.ref a1), .val (.int d1), .val (.int em1), .val (.long t1), .second, .val (.int m1), .val (.long q1), .second] [(.ref a1)]))
  refine own_by (fun t kk_ => XS.iloadN X2.here hx rfl (hb hby d1_10) rfl  kk_) ?_
  show OwnG p e below s _ _ _ (T2.setTop (mkF m 11 #[.val (.ref a1), .val (.int d1), .val (.int em1), .val (.long t1), .second, .val (.int m1), .val (.long q1), .second] [(.int em1), (.ref a1)]))
  obtain ⟨T10, h10, X10, e10, W10, st10⟩ := putF X2 hx hZ hown (host := "") (Or.inl (hw _ (List.mem_of_getElem? (i := 12) rfl))) Via.refl e2 f5 f3 (Or.inr ⟨(hw _ (List.mem_of_getElem? (i := 13) rfl)), rfl, hnm⟩) (hw _ (List.mem_of_getElem? (i := 2) rfl)) (ty := .int) (by decide) rfl rfl (g := (mkF m 11 #[.val (.ref a1), .val (.int d1), .val (.int em1), .val (.long t1), .second, .val (.int m1), .val (.long q1), .second] [(.int em1), (.ref a1)])) rfl rfl (hb hby d1_11)
  refine own_by (fun t kk_ => st10 _ kk_) ?_
  have f11 := Exa.wr W10 f3
  have f12 := Fld.other W10 f9 (Or.inr (slot_ne (Or.inr (hw _ (List.mem_of_getElem? (i := 11) rfl))) (Or.inr (hw _ (List.mem_of_getElem? (i := 13) rfl))) (by decide) (t := .int) (t' := .int) (by decide) (by decide)))
  have f14 := Fld.other W10 f6 (Or.inr (slot_ne (Or.inr (hw _ (List.mem_of_getElem? (i := 15) rfl))) (Or.inr (hw _ (List.mem_of_getElem? (i := 13) rfl))) (by decide) (t := .long) (t' := .int) (by decide) (by decide)))
  have f15 := Fld.other W10 f7 (Or.inr (slot_ne (Or.inr (hw _ (List.mem_of_getElem? (i := 17) rfl))) (Or.inr (hw _ (List.mem_of_getElem? (i := 13) rfl))) (by decide) (t := .int) (t' := .int) (by decide) (by decide)))
  have f16 := Fld.other W10 f8 (Or.inr (slot_ne (Or.inr (hw _ (List.mem_of_getElem? (i := 19) rfl))) (Or.inr (hw _ (List.mem_of_getElem? (i := 13) rfl))) (by decide) (t := .long) (t' := .int) (by decide) (by decide)))
  have f17 := Fld.same W10 f5
  have N10 := Fr.snoc X10 N2 g1
  have sz10 : n0 ≤ h10.size := by rw [W10.size]; exact sz2
  show OwnG p e below s _ _ _ (T10.setTop (mkF m 14 #[.val (.ref a1), .val (.int d1), .val (.int em1), .val (.long t1), .second, .val (.int m1), .val (.long q1), .second] []))
  refine own_by (fun t kk_ => XS.aloadN X10.here hx rfl (hb hby d1_14) rfl rfl kk_) ?_
  show OwnG p e below s _ _ _ (T10.setTop (mkF m 15 #[.val (.ref a1), .val (.int d1), .val (.int em1), .val (.long t1), .second, .val (.int m1), .val (.long q1), .second] [(.ref a1)]))
  refine own_by (fun t kk_ => XS.lloadN X10.here hx rfl (hb hby d1_15) rfl  kk_) ?_
  show OwnG p e below s _ _ _ (T10.setTop (mkF m 16 #[.val (.ref a1), .val (.int d1), .val (.int em1), .val (.long t1), .second, .val (.int m1), .val (.long q1), .second] [(.long t1), (.ref a1)]))
  obtain ⟨T18, h18, X18, e18, W18, st18⟩ := putF X10 hx hZ hown (host := "") (Or.inl (hw _ (List.mem_of_getElem? (i := 14) rfl))) Via.refl e10 f14 f11 (Or.inr ⟨(hw _ (List.mem_of_getElem? (i := 15) rfl)), rfl, hnm⟩) (hw _ (List.mem_of_getElem? (i := 2) rfl)) (ty := .long) (by decide) rfl rfl (g := (mkF m 16 #[.val (.ref a1), .val (.int d1), .val (.int em1), .val (.long t1), .second, .val (.int m1), .val (.long q1), .second] [(.long t1), (.ref a1)])) rfl rfl (hb hby d1_16)
  refine own_by (fun t kk_ => st18 _ kk_) ?_
  have f19 := Exa.wr W18 f11
  have f20 := Fld.other W18 f12 (Or.inr (slot_ne (Or.inr (hw _ (List.mem_of_getElem? (i := 11) rfl))) (Or.inr (hw _ (List.mem_of_getElem? (i := 15) rfl))) (by decide) (t := .int) (t' := .long) (by decide) (by decide)))
  have f21 := Fld.other W18 f17 (Or.inr (slot_ne (Or.inr (hw _ (List.mem_of_getElem? (i := 13) rfl))) (Or.inr (hw _ (List.mem_of_getElem? (i := 15) rfl))) (by decide) (t := .int) (t' := .long) (by decide) (by decide)))
  have f23 := Fld.other W18 f15 (Or.inr (slot_ne (Or.inr (hw _ (List.mem_of_getElem? (i := 17) rfl))) (Or.inr (hw _ (List.mem_of_getElem? (i := 15) rfl))) (by decide) (t := .int) (t' := .long) (by decide) (by decide)))
  have f24 := Fld.other W18 f16 (Or.inr (slot_ne (Or.inr (hw _ (List.mem_of_getElem? (i := 19) rfl))) (Or.inr (hw _ (List.mem_of_getElem? (i := 15) rfl))) (by decide) (t := .long) (t' := .long) (by decide) (by decide)))
  have f25 := Fld.same W18 f14
  have N18 := Fr.snoc X18 N10 g1
  have sz18 : n0 ≤ h18.size := by rw [W18.size]; exact sz10
  show OwnG p e below s _ _ _ (T18.setTop (mkF m 19 #[.val (.ref a1), .val (.int d1), .val (.int em1), .val (.long t1), .second, .val (.int m1), .val (.long q1), .second] []))
  refine own_by (fun t kk_ => XS.aloadN X18.here hx rfl (hb hby d1_19) rfl rfl kk_) ?_
  show OwnG p e below s _ _ _ (T18.setTop (mkF m 20 #[.val (.ref a1), .val (.int d1), .val (.int em1), .val (.long t1), .second, .val (.int m1), .val (.long q1), .second] [(.ref a1)]))
  refine own_by (fun t kk_ => XS.iload X18.here hx rfl (hb hby d1_20) rfl  kk_) ?_
  show OwnG p e below s _ _ _ (T18.setTop (mkF m 22 #[.val (.ref a1), .val (.int d1), .val (.int em1), .val (.long t1), .second, .val (.int m1), .val (.long q1), .second] [(.int m1), (.ref a1)]))
  obtain ⟨T26, h26, X26, e26, W26, st26⟩ := putF X18 hx hZ hown (host := "") (Or.inl (hw _ (List.mem_of_getElem? (i := 16) rfl))) Via.refl e18 f23 f19 (Or.inr ⟨(hw _ (List.mem_of_getElem? (i := 17) rfl)), rfl, hnm⟩) (hw _ (List.mem_of_getElem? (i := 2) rfl)) (ty := .int) (by decide) rfl rfl (g := (mkF m 22 #[.val (.ref a1), .val (.int d1), .val (.int em1), .val (.long t1), .second, .val (.int m1), .val (.long q1), .second] [(.int m1), (.ref a1)])) rfl rfl (hb hby d1_22)
  refine own_by (fun t kk_ => st26 _ kk_) ?_
  have f27 := Exa.wr W26 f19
  have f28 := Fld.other W26 f20 (Or.inr (slot_ne (Or.inr (hw _ (List.mem_of_getElem? (i := 11) rfl))) (Or.inr (hw _ (List.mem_of_getElem? (i := 17) rfl))) (by decide) (t := .int) (t' := .int) (by decide) (by decide)))
  have f29 := Fld.other W26 f21 (Or.inr (slot_ne (Or.inr (hw _ (List.mem_of_getElem? (i := 13) rfl))) (Or.inr (hw _ (List.mem_of_getElem? (i := 17) rfl))) (by decide) (t := .int) (t' := .int) (by decide) (by decide)))
  have f30 := Fld.other W26 f25 (Or.inr (slot_ne (Or.inr (hw _ (List.mem_of_getElem? (i := 15) rfl))) (Or.inr (hw _ (List.mem_of_getElem? (i := 17) rfl))) (by decide) (t := .long) (t' := .int) (by decide) (by decide)))
  have f32 := Fld.other W26 f24 (Or.inr (slot_ne (Or.inr (hw _ (List.mem_of_getElem? (i := 19) rfl))) (Or.inr (hw _ (List.mem_of_getElem? (i := 17) rfl))) (by decide) (t := .long) (t' := .int) (by decide) (by decide)))
  have f33 := Fld.same W26 f23
  have N26 := Fr.snoc X26 N18 g1
  have sz26 : n0 ≤ h26.size := by rw [W26.size]; exact sz18
  show OwnG p e below s _ _ _ (T26.setTop (mkF m 25 #[.val (.ref a1), .val (.int d1), .val (.int em1), .val (.long t1), .second, .val (.int m1), .val (.long q1), .second] []))
  refine own_by (fun t kk_ => XS.aloadN X26.here hx rfl (hb hby d1_25) rfl rfl kk_) ?_
  show OwnG p e below s _ _ _ (T26.setTop (mkF m 26 #[.val (.ref a1), .val (.int d1), .val (.int em1), .val (.long t1), .second, .val (.int m1), .val (.long q1), .second] [(.ref a1)]))
  refine own_by (fun t kk_ => XS.lload X26.here hx rfl (hb hby d1_26) rfl  kk_) ?_
  show OwnG p e below s _ _ _ (T26.setTop (mkF m 28 #[.val (.ref a1), .val (.int d1), .val (.int em1), .val (.long t1), .second, .val (.int m1), .val (.long q1), .second] [(.long q1), (.ref a1)]))
  obtain ⟨T34, h34, X34, e34, W34, st34⟩ := putF X26 hx hZ hown (host := "") (Or.inl (hw _ (List.mem_of_getElem? (i := 18) rfl))) Via.refl e26 f32 f27 (Or.inr ⟨(hw _ (List.mem_of_getElem? (i := 19) rfl)), rfl, hnm⟩) (hw _ (List.mem_of_getElem? (i := 2) rfl)) (ty := .long) (by decide) rfl rfl (g := (mkF m 28 #[.val (.ref a1), .val (.int d1), .val (.int em1), .val (.long t1), .second, .val (.int m1), .val (.long q1), .second] [(.long q1), (.ref a1)])) rfl rfl (hb hby d1_28)
  refine own_by (fun t kk_ => st34 _ kk_) ?_
  have f35 := Exa.wr W34 f27
  have f36 := Fld.other W34 f28 (Or.inr (slot_ne (Or.inr (hw _ (List.mem_of_getElem? (i := 11) rfl))) (Or.inr (hw _ (List.mem_of_getElem? (i := 19) rfl))) (by decide) (t := .int) (t' := .long) (by decide) (by decide)))
  have f37 := Fld.other W34 f29 (Or.inr (slot_ne (Or.inr (hw _ (List.mem_of_getElem? (i := 13) rfl))) (Or.inr (hw _ (List.mem_of_getElem? (i := 19) rfl))) (by decide) (t := .int) (t' := .long) (by decide) (by decide)))
  have f38 := Fld.other W34 f30 (Or.inr (slot_ne (Or.inr (hw _ (List.mem_of_getElem? (i := 15) rfl))) (Or.inr (hw _ (List.mem_of_getElem? (i := 19) rfl))) (by decide) (t := .long) (t' := .long) (by decide) (by decide)))
  have f39 := Fld.other W34 f33 (Or.inr (slot_ne (Or.inr (hw _ (List.mem_of_getElem? (i := 17) rfl))) (Or.inr (hw _ (List.mem_of_getElem? (i := 19) rfl))) (by decide) (t := .int) (t' := .long) (by decide) (by decide)))
  have f41 := Fld.same W34 f32
  have N34 := Fr.snoc X34 N26 g1
  have sz34 : n0 ≤ h34.size := by rw [W34.size]; exact sz26
  show OwnG p e below s _ _ _ (T34.setTop (mkF m 31 #[.val (.ref a1), .val (.int d1), .val (.int em1), .val (.long t1), .second, .val (.int m1), .val (.long q1), .second] []))
  exact own_outV X34 hx hret hlk (hb hby d1_31) (by show _ ∧ _; rw [e34]; exact ⟨rfl, N34, f35, f36, f38⟩) (by decide) (by decide)
theorem d3_0 : decode prog_48_method_7_code 0 = .ok (.aload_n 0, 1) := by decide +kernel
theorem d3_1 : decode prog_48_method_7_code 1 = .ok (.getfield 7, 3) := by decide +kernel
theorem d3_4 : decode prog_48_method_7_code 4 = .ok (.ifCond .ne 7, 3) := by decide +kernel
theorem d3_7 : decode prog_48_method_7_code 7 = .ok (.dconst 0, 1) := by decide +kernel
theorem d3_8 : decode prog_48_method_7_code 8 = .ok (.goto 14, 3) := by decide +kernel
theorem d3_11 : decode prog_48_method_7_code 11 = .ok (.aload_n 0, 1) := by decide +kernel
theorem d3_12 : decode prog_48_method_7_code 12 = .ok (.getfield 16, 3) := by decide +kernel
theorem d3_15 : decode prog_48_method_7_code 15 = .ok (.l2d, 1) := by decide +kernel
theorem d3_16 : decode prog_48_method_7_code 16 = .ok (.aload_n 0, 1) := by decide +kernel
theorem d3_17 : decode prog_48_method_7_code 17 = .ok (.getfield 7, 3) := by decide +kernel
theorem d3_20 : decode prog_48_method_7_code 20 = .ok (.i2d, 1) := by decide +kernel
theorem d3_21 : decode prog_48_method_7_code 21 = .ok (.ddiv, 1) := by decide +kernel
theorem d3_22 : decode prog_48_method_7_code 22 = .ok (.dreturn, 1) := by decide +kernel
theorem ef_3z (m : MethodId) (x0 : Addr) : entryFrame m #[(.ref x0)] 1 = mkF m 0 #[.val (.ref x0)] [] := by first | (simp [entryFrame, mkF, argsToLocals, Value.category]; done) | rfl
def Q3z (Z : State) (a1 : Addr) (d1 : Int32) (t1 : Int64) (h0 : Heap) (n0 : Nat) (v : Option Value) (h : Heap) (L : List Loc) : Prop := v = some (.double FP.dconst0) ∧ Fr n0 L ∧ h = h0
set_option maxRecDepth 65536 in
set_option maxHeartbeats 40000000 in
theorem rm3z (l : Launch) (Z : State) (a0 : Array Value) (hw : ∀ d ∈ tables_1, d.before a0 Z = true) (ws : List Jvm.Cond) (a1 : Addr) (d1 : Int32) (t1 : Int64) (h0 : Heap) (n0 : Nat) (Z0 : n0 ≤ h0.size) (FD : Fld Z h0 a1 "com/example/iota_ranker/iotaranker/index/CollectionStatistics" "documents" "I" (.int d1)) (FT : Fld Z h0 a1 "com/example/iota_ranker/iotaranker/index/CollectionStatistics" "tokens" "J" (.long t1)) (hd : d1 = 0) :
    MetFree l (⟨"com/example/iota_ranker/iotaranker/index/CollectionStatistics", "averageDocumentLength", "()D"⟩ : MethodName) (head1 (Jvm.Cond.code (⟨"com/example/iota_ranker/iotaranker/index/CollectionStatistics", "averageDocumentLength", "()D"⟩ : MethodName) prog_48_method_7_code 1 (some .double) :: ws) ({ frames := 0, cells := 0, slots := 0, locals := 0 } : Room)) (fun aa_ U => aa_ = #[(.ref a1)] ∧ Z.Warmed39 U.vm ∧ U.heap = h0) (fun _ _ _ _ _ => True) (fun _ U o U' => ∃ v L, o = .returned v ∧ Q3z Z a1 d1 t1 h0 n0 v U'.heap L ∧ FrameEnd U o U' L ({ frames := 0, cells := 0, slots := 0, locals := 0 } : Room).cells ({ frames := 0, cells := 0, slots := 0, locals := 0 } : Room).slots) := by
  refine own_met (Q := fun v h L => Q3z Z a1 d1 t1 h0 n0 v h L) (plainFor_of_name pn_0) ?_
  intro p e s m below meth c s₁ hx hby hml hret hlk hown hnm hZ X0 e0
  have N0 := Fr.nil n0
  rw [ef_3z m a1]
  show OwnG p e below s _ _ _ (s₁.setTop (mkF m 0 #[.val (.ref a1)] []))
  refine own_by (fun t kk_ => XS.aloadN X0.here hx rfl (hb hby d3_0) rfl rfl kk_) ?_
  show OwnG p e below s _ _ _ (s₁.setTop (mkF m 1 #[.val (.ref a1)] [(.ref a1)]))
  obtain ⟨T1, X1, e1, st1⟩ := getF X0 hx hZ hown (host := "") (Or.inl (hw _ (List.mem_of_getElem? (i := 10) rfl))) Via.refl e0 FD (g := (mkF m 1 #[.val (.ref a1)] [(.ref a1)])) rfl rfl (hb hby d3_1)
  refine own_by (fun t kk_ => st1 _ kk_) ?_
  show OwnG p e below s _ _ _ (T1.setTop (mkF m 4 #[.val (.ref a1)] [(.int d1)]))
  refine own_by (fun t kk_ => XS.ifNo X1.here hx rfl (hb hby d3_4) rfl ((if0 _ _).trans (teq hd).2) kk_) ?_
  show OwnG p e below s _ _ _ (T1.setTop (mkF m 7 #[.val (.ref a1)] []))
  refine own_by (fun t kk_ => XS.dconst0 X1.here hx rfl (hb hby d3_7) rfl kk_) ?_
  show OwnG p e below s _ _ _ (T1.setTop (mkF m 8 #[.val (.ref a1)] [(.double FP.dconst0)]))
  refine own_by (fun t kk_ => XS.goto X1.here hx rfl (pc0 := 8) (pc' := 22) rfl (hb hby d3_8) (by decide) (by decide) kk_) ?_
  show OwnG p e below s _ _ _ (T1.setTop (mkF m 22 #[.val (.ref a1)] [(.double FP.dconst0)]))
  exact own_outD X1 hx hret hlk (hb hby d3_22) (⟨rfl, N0, e1⟩) (by decide) (by decide)
theorem ef_3p (m : MethodId) (x0 : Addr) : entryFrame m #[(.ref x0)] 1 = mkF m 0 #[.val (.ref x0)] [] := by first | (simp [entryFrame, mkF, argsToLocals, Value.category]; done) | rfl
def Q3p (Z : State) (a1 : Addr) (d1 : Int32) (t1 : Int64) (h0 : Heap) (n0 : Nat) (v : Option Value) (h : Heap) (L : List Loc) : Prop := v = some (.double (FP.ddiv (FP.l2d t1) (FP.i2d d1))) ∧ Fr n0 L ∧ h = h0
set_option maxRecDepth 65536 in
set_option maxHeartbeats 40000000 in
theorem rm3p (l : Launch) (Z : State) (a0 : Array Value) (hw : ∀ d ∈ tables_1, d.before a0 Z = true) (ws : List Jvm.Cond) (a1 : Addr) (d1 : Int32) (t1 : Int64) (h0 : Heap) (n0 : Nat) (Z0 : n0 ≤ h0.size) (FD : Fld Z h0 a1 "com/example/iota_ranker/iotaranker/index/CollectionStatistics" "documents" "I" (.int d1)) (FT : Fld Z h0 a1 "com/example/iota_ranker/iotaranker/index/CollectionStatistics" "tokens" "J" (.long t1)) (hd : ¬ d1 = 0) :
    MetFree l (⟨"com/example/iota_ranker/iotaranker/index/CollectionStatistics", "averageDocumentLength", "()D"⟩ : MethodName) (head1 (Jvm.Cond.code (⟨"com/example/iota_ranker/iotaranker/index/CollectionStatistics", "averageDocumentLength", "()D"⟩ : MethodName) prog_48_method_7_code 1 (some .double) :: ws) ({ frames := 0, cells := 0, slots := 0, locals := 0 } : Room)) (fun aa_ U => aa_ = #[(.ref a1)] ∧ Z.Warmed39 U.vm ∧ U.heap = h0) (fun _ _ _ _ _ => True) (fun _ U o U' => ∃ v L, o = .returned v ∧ Q3p Z a1 d1 t1 h0 n0 v U'.heap L ∧ FrameEnd U o U' L ({ frames := 0, cells := 0, slots := 0, locals := 0 } : Room).cells ({ frames := 0, cells := 0, slots := 0, locals := 0 } : Room).slots) := by
  refine own_met (Q := fun v h L => Q3p Z a1 d1 t1 h0 n0 v h L) (plainFor_of_name pn_0) ?_
  intro p e s m below meth c s₁ hx hby hml hret hlk hown hnm hZ X0 e0
  have N0 := Fr.nil n0
  rw [ef_3p m a1]
  show OwnG p e below s _ _ _ (s₁.setTop (mkF m 0 #[.val (.ref a1)] []))
  refine own_by (fun t kk_ => XS.aloadN X0.here hx rfl (hb hby d3_0) rfl rfl kk_) ?_
  show OwnG p e below s _ _ _ (s₁.setTop (mkF m 1 #[.val (.ref a1)] [(.ref a1)]))
  obtain ⟨T1, X1, e1, st1⟩ := getF X0 hx hZ hown (host := "") (Or.inl (hw _ (List.mem_of_getElem? (i := 10) rfl))) Via.refl e0 FD (g := (mkF m 1 #[.val (.ref a1)] [(.ref a1)])) rfl rfl (hb hby d3_1)
  refine own_by (fun t kk_ => st1 _ kk_) ?_
  show OwnG p e below s _ _ _ (T1.setTop (mkF m 4 #[.val (.ref a1)] [(.int d1)]))
  refine own_by (fun t kk_ => XS.ifYes X1.here hx rfl (pc0 := 4) (pc' := 11) rfl (hb hby d3_4) rfl ((if0 _ _).trans (feq hd).2) (by decide) (by decide) kk_) ?_
  show OwnG p e below s _ _ _ (T1.setTop (mkF m 11 #[.val (.ref a1)] []))
  refine own_by (fun t kk_ => XS.aloadN X1.here hx rfl (hb hby d3_11) rfl rfl kk_) ?_
  show OwnG p e below s _ _ _ (T1.setTop (mkF m 12 #[.val (.ref a1)] [(.ref a1)]))
  obtain ⟨T2, X2, e2, st2⟩ := getF X1 hx hZ hown (host := "") (Or.inl (hw _ (List.mem_of_getElem? (i := 14) rfl))) Via.refl e1 FT (g := (mkF m 12 #[.val (.ref a1)] [(.ref a1)])) rfl rfl (hb hby d3_12)
  refine own_by (fun t kk_ => st2 _ kk_) ?_
  show OwnG p e below s _ _ _ (T2.setTop (mkF m 15 #[.val (.ref a1)] [(.long t1)]))
  refine own_by (fun t kk_ => XS.l2dS X2.here hx rfl (hb hby d3_15) rfl rfl kk_) ?_
  show OwnG p e below s _ _ _ (T2.setTop (mkF m 16 #[.val (.ref a1)] [(.double (FP.l2d t1))]))
  refine own_by (fun t kk_ => XS.aloadN X2.here hx rfl (hb hby d3_16) rfl rfl kk_) ?_
  show OwnG p e below s _ _ _ (T2.setTop (mkF m 17 #[.val (.ref a1)] [(.ref a1), (.double (FP.l2d t1))]))
  obtain ⟨T3, X3, e3, st3⟩ := getF X2 hx hZ hown (host := "") (Or.inl (hw _ (List.mem_of_getElem? (i := 10) rfl))) Via.refl e2 FD (g := (mkF m 17 #[.val (.ref a1)] [(.ref a1), (.double (FP.l2d t1))])) rfl rfl (hb hby d3_17)
  refine own_by (fun t kk_ => st3 _ kk_) ?_
  show OwnG p e below s _ _ _ (T3.setTop (mkF m 20 #[.val (.ref a1)] [(.int d1), (.double (FP.l2d t1))]))
  refine own_by (fun t kk_ => XS.i2dS X3.here hx rfl (hb hby d3_20) rfl rfl kk_) ?_
  show OwnG p e below s _ _ _ (T3.setTop (mkF m 21 #[.val (.ref a1)] [(.double (FP.i2d d1)), (.double (FP.l2d t1))]))
  refine own_by (fun t kk_ => XS.ddivS X3.here hx rfl (hb hby d3_21) rfl (own_nan hd) rfl kk_) ?_
  show OwnG p e below s _ _ _ (T3.setTop (mkF m 22 #[.val (.ref a1)] [(.double (FP.ddiv (FP.l2d t1) (FP.i2d d1)))]))
  exact own_outD X3 hx hret hlk (hb hby d3_22) (⟨rfl, N0, e3⟩) (by decide) (by decide)
theorem own_two {r : Int64} {d : Int32} (h0 : 0 ≤ r.toInt) (h1 : r.toInt < d.toInt) : ((2 : Int64) * r).toInt = 2 * r.toInt := by
  have e := c_lmul 2 r
  have b := rng64 ((2 : Int64) * r)
  have c := rng32 d
  rw [show (2 : Int64).toInt = 2 from by decide] at e
  omega
theorem own_r0 {r : Int64} (h : r = 0) : r.toInt = 0 := by subst h; decide
theorem own_lt2 {t : Int64} {d : Int32} {x : Int} (ht : t.toInt = x) : t < d.toInt64 ↔ x < d.toInt := by rw [Int64.lt_iff_toInt_lt, Int32.toInt_toInt64, ht]
theorem own_gt2 {t : Int64} {d : Int32} {x : Int} (ht : t.toInt = x) : d.toInt64 < t ↔ d.toInt < x := by rw [Int64.lt_iff_toInt_lt, Int32.toInt_toInt64, ht]
theorem pn_1 : plainName "com/example/iota_ranker/iotaranker/index/CollectionStatisticsAverageDocumentLengthPinLaw" = true := by first | (simp [plainName, overriddenIn]; done) | decide +kernel
theorem pd_1 : parseMethodDescriptor "(IIJIJ)V" = some ⟨[.int, .int, .long, .int, .long], none⟩ := by decide +kernel
theorem pd_2 : parseMethodDescriptor "()D" = some ⟨[], some .double⟩ := by decide +kernel
set_option maxRecDepth 65536 in
set_option maxHeartbeats 40000000 in
theorem own_tail {p : Program} {l : Launch} {e : Env} {s : State} {m : MethodId} {args : Array Value} {below : List Frame} {meth : Method} {c : Code} {T0 : State} {locs : List Loc} {Z : State} {a0 : Array Value} {h0 : Heap} {n0 : Nat} (x0 y0 s0 rr e0' : Int32) (t0 : Int64) (sm d : Int32) (q : Int64) (X0 : Stand p l e room_1 s m args below meth c T0 locs (0) (0)) (hx : p.tables.exec = Jvm.exec) (hby : c.code = code) (hml : c.maxLocals = 26) (hret : meth.sig.returnType = some .boolean) (hlk : meth.locks = false) (hown : s.vm.findClass "com/example/iota_ranker/iotaranker/index/CollectionStatisticsAverageDocumentLengthPinLaw" = some m.cls) (hnm : meth.name = "law") (hZ : Z.Warmed39 s.vm) (hw : ∀ d ∈ tables_1, d.before a0 Z = true) (e0 : T0.heap = h0) (N0 : Fr n0 locs) (Z0 : n0 ≤ h0.size) (hB : ownB q d) :
    OwnG p e below s (fun v h L => v = some (.int (1 : Int32)) ∧ Fr n0 L) room_1.cells room_1.slots (T0.setTop (mkF m 48 #[.val (.int x0), .val (.int y0), .val (.int s0), .val (.int rr), .val (.int e0'), .val (.long t0), .second, .val (.int sm), .val (.int d), .val (.long q), .second, .unset, .unset, .unset, .unset, .unset, .unset, .unset, .unset, .unset, .unset, .unset, .unset, .unset, .unset, .unset] [])) := by
  show OwnG p e below s _ _ _ (T0.setTop (mkF m 48 #[.val (.int x0), .val (.int y0), .val (.int s0), .val (.int rr), .val (.int e0'), .val (.long t0), .second, .val (.int sm), .val (.int d), .val (.long q), .second, .unset, .unset, .unset, .unset, .unset, .unset, .unset, .unset, .unset, .unset, .unset, .unset, .unset, .unset, .unset] []))
  refine own_by (fun t kk_ => XS.iload X0.here hx rfl (hb hby at_48) rfl  kk_) ?_
  show OwnG p e below s _ _ _ (T0.setTop (mkF m 50 #[.val (.int x0), .val (.int y0), .val (.int s0), .val (.int rr), .val (.int e0'), .val (.long t0), .second, .val (.int sm), .val (.int d), .val (.long q), .second, .unset, .unset, .unset, .unset, .unset, .unset, .unset, .unset, .unset, .unset, .unset, .unset, .unset, .unset, .unset] [(.int d)]))
  by_cases hd0 : d = (0 : Int32)
  · refine own_by (fun t kk_ => XS.ifNo X0.here hx rfl (hb hby at_50) rfl ((if0 _ _).trans (teq hd0).2) kk_) ?_
    show OwnG p e below s _ _ _ (T0.setTop (mkF m 53 #[.val (.int x0), .val (.int y0), .val (.int s0), .val (.int rr), .val (.int e0'), .val (.long t0), .second, .val (.int sm), .val (.int d), .val (.long q), .second, .unset, .unset, .unset, .unset, .unset, .unset, .unset, .unset, .unset, .unset, .unset, .unset, .unset, .unset, .unset] []))
    obtain ⟨T1, h1, X1, e1, E1, A1, D1, -, st1⟩ := newO X0 hx hZ hown (hw _ (List.mem_of_getElem? (i := 1) rfl)) (hw _ (List.mem_of_getElem? (i := 2) rfl)) (hw _ (List.mem_of_getElem? (i := 3) rfl)) e0 (g := (mkF m 53 #[.val (.int x0), .val (.int y0), .val (.int s0), .val (.int rr), .val (.int e0'), .val (.long t0), .second, .val (.int sm), .val (.int d), .val (.long q), .second, .unset, .unset, .unset, .unset, .unset, .unset, .unset, .unset, .unset, .unset, .unset, .unset, .unset, .unset, .unset] [])) rfl (hb hby at_53) (by decide) (by decide)
    obtain ⟨ob, g1⟩ : ∃ z, z = h0.size := ⟨_, rfl⟩
    rw [← g1] at A1 D1 st1
    have gg_ob : n0 ≤ ob := by rw [g1]; exact Z0
    have sz1 : n0 ≤ h1.size := Nat.le_trans Z0 E1.1
    refine own_by (fun t kk_ => st1 _ kk_) ?_
    have f2 : Fld Z h1 ob "com/example/iota_ranker/iotaranker/index/CollectionStatistics" "documents" "I" (.int (0 : Int32)) := D1 (Or.inr (hw _ (List.mem_of_getElem? (i := 11) rfl))) (ty := .int) (by decide)
    have f3 : Fld Z h1 ob "com/example/iota_ranker/iotaranker/index/CollectionStatistics" "emptyDocuments" "I" (.int (0 : Int32)) := D1 (Or.inr (hw _ (List.mem_of_getElem? (i := 13) rfl))) (ty := .int) (by decide)
    have f4 : Fld Z h1 ob "com/example/iota_ranker/iotaranker/index/CollectionStatistics" "tokens" "J" (.long (0 : Int64)) := D1 (Or.inr (hw _ (List.mem_of_getElem? (i := 15) rfl))) (ty := .long) (by decide)
    have f5 : Fld Z h1 ob "com/example/iota_ranker/iotaranker/index/CollectionStatistics" "terms" "I" (.int (0 : Int32)) := D1 (Or.inr (hw _ (List.mem_of_getElem? (i := 17) rfl))) (ty := .int) (by decide)
    have f6 : Fld Z h1 ob "com/example/iota_ranker/iotaranker/index/CollectionStatistics" "postings" "J" (.long (0 : Int64)) := D1 (Or.inr (hw _ (List.mem_of_getElem? (i := 19) rfl))) (ty := .long) (by decide)
    show OwnG p e below s _ _ _ (T1.setTop (mkF m 56 #[.val (.int x0), .val (.int y0), .val (.int s0), .val (.int rr), .val (.int e0'), .val (.long t0), .second, .val (.int sm), .val (.int d), .val (.long q), .second, .unset, .unset, .unset, .unset, .unset, .unset, .unset, .unset, .unset, .unset, .unset, .unset, .unset, .unset, .unset] [(.ref ob)]))
    refine own_by (fun t kk_ => XS.dup X1.here hx rfl (hb hby at_56) rfl rfl kk_) ?_
    show OwnG p e below s _ _ _ (T1.setTop (mkF m 57 #[.val (.int x0), .val (.int y0), .val (.int s0), .val (.int rr), .val (.int e0'), .val (.long t0), .second, .val (.int sm), .val (.int d), .val (.long q), .second, .unset, .unset, .unset, .unset, .unset, .unset, .unset, .unset, .unset, .unset, .unset, .unset, .unset, .unset, .unset] [(.ref ob), (.ref ob)]))
    refine own_by (fun t kk_ => XS.iconst X1.here hx rfl (hb hby at_57) kk_) ?_
    show OwnG p e below s _ _ _ (T1.setTop (mkF m 58 #[.val (.int x0), .val (.int y0), .val (.int s0), .val (.int rr), .val (.int e0'), .val (.long t0), .second, .val (.int sm), .val (.int d), .val (.long q), .second, .unset, .unset, .unset, .unset, .unset, .unset, .unset, .unset, .unset, .unset, .unset, .unset, .unset, .unset, .unset] [(.int (0 : Int32)), (.ref ob), (.ref ob)]))
    refine own_by (fun t kk_ => XS.iload X1.here hx rfl (hb hby at_58) rfl  kk_) ?_
    show OwnG p e below s _ _ _ (T1.setTop (mkF m 60 #[.val (.int x0), .val (.int y0), .val (.int s0), .val (.int rr), .val (.int e0'), .val (.long t0), .second, .val (.int sm), .val (.int d), .val (.long q), .second, .unset, .unset, .unset, .unset, .unset, .unset, .unset, .unset, .unset, .unset, .unset, .unset, .unset, .unset, .unset] [(.int e0'), (.int (0 : Int32)), (.ref ob), (.ref ob)]))
    refine own_by (fun t kk_ => XS.lload X1.here hx rfl (hb hby at_60) rfl  kk_) ?_
    show OwnG p e below s _ _ _ (T1.setTop (mkF m 62 #[.val (.int x0), .val (.int y0), .val (.int s0), .val (.int rr), .val (.int e0'), .val (.long t0), .second, .val (.int sm), .val (.int d), .val (.long q), .second, .unset, .unset, .unset, .unset, .unset, .unset, .unset, .unset, .unset, .unset, .unset, .unset, .unset, .unset, .unset] [(.long t0), (.int e0'), (.int (0 : Int32)), (.ref ob), (.ref ob)]))
    refine own_by (fun t kk_ => XS.iloadN X1.here hx rfl (hb hby at_62) rfl  kk_) ?_
    show OwnG p e below s _ _ _ (T1.setTop (mkF m 63 #[.val (.int x0), .val (.int y0), .val (.int s0), .val (.int rr), .val (.int e0'), .val (.long t0), .second, .val (.int sm), .val (.int d), .val (.long q), .second, .unset, .unset, .unset, .unset, .unset, .unset, .unset, .unset, .unset, .unset, .unset, .unset, .unset, .unset, .unset] [(.int s0), (.long t0), (.int e0'), (.int (0 : Int32)), (.ref ob), (.ref ob)]))
    refine own_by (fun t kk_ => XS.lload X1.here hx rfl (hb hby at_63) rfl  kk_) ?_
    show OwnG p e below s _ _ _ (T1.setTop (mkF m 65 #[.val (.int x0), .val (.int y0), .val (.int s0), .val (.int rr), .val (.int e0'), .val (.long t0), .second, .val (.int sm), .val (.int d), .val (.long q), .second, .unset, .unset, .unset, .unset, .unset, .unset, .unset, .unset, .unset, .unset, .unset, .unset, .unset, .unset, .unset] [(.long t0), (.int s0), (.long t0), (.int e0'), (.int (0 : Int32)), (.ref ob), (.ref ob)]))
    obtain ⟨_, _, ⟨T7, L7, k7, n7⟩, -, X7, ⟨Lc7, hQ7, l7, y7, z7⟩, st7⟩ := X1.specialBack hx (y := (⟨"com/example/iota_ranker/iotaranker/index/CollectionStatistics", "<init>", "(IIJIJ)V"⟩ : MethodName)) rfl hown (mvT hZ (hw _ (List.mem_of_getElem? (i := 4) rfl))) (mvT hZ (hw _ (List.mem_of_getElem? (i := 5) rfl))) (mvT hZ (hw _ (List.mem_of_getElem? (i := 6) rfl))) (by decide) (backOf (W := 1) (rm1 l Z a0 hw [] ob (0 : Int32) e0' t0 s0 t0 h1 n0 sz1 A1 f2 f3 f4 f5 f6 gg_ob) hZ (hw _ (List.mem_of_getElem? (i := 6) rfl)) (hw _ (List.mem_of_getElem? (i := 3) rfl)) (by decide) (by decide)) (g := (mkF m 65 #[.val (.int x0), .val (.int y0), .val (.int s0), .val (.int rr), .val (.int e0'), .val (.long t0), .second, .val (.int sm), .val (.int d), .val (.long q), .second, .unset, .unset, .unset, .unset, .unset, .unset, .unset, .unset, .unset, .unset, .unset, .unset, .unset, .unset, .unset] [(.long t0), (.int s0), (.long t0), (.int e0'), (.int (0 : Int32)), (.ref ob), (.ref ob)])) rfl (by rw [hml]; rfl) (Steps.refl _) (a := ob) (argsL := [(.int (0 : Int32)), (.int e0'), (.long t0), (.int s0), (.long t0)]) (rest := [(.ref ob)]) (lenOf pd_1 rfl) rfl (by show 2 * 0 + _ ≤ _; exact Nat.le_of_eq rfl) (hb hby at_65) (fun _ _ => ⟨rfl, e1, (by decide : 0 + 1 + 0 ≤ _), (by decide : 0 + 5 + 0 ≤ _)⟩)
    dsimp only [Pt.U, Pt.locs, Pt.cells, Pt.slots] at X7 l7 y7 z7 st7 hQ7
    subst l7 y7 z7
    refine own_by (fun t kk_ => st7.trans kk_) ?_
    obtain ⟨rfl, N7q, x7, fd7, ft7⟩ := hQ7
    have N7 := Fr.app N0 N7q
    have sz7 : n0 ≤ T7.heap.size := Nat.le_trans gg_ob (Nat.le_of_lt x7.lt)
    show OwnG p e below s _ _ _ (T7.setTop (mkF m 68 #[.val (.int x0), .val (.int y0), .val (.int s0), .val (.int rr), .val (.int e0'), .val (.long t0), .second, .val (.int sm), .val (.int d), .val (.long q), .second, .unset, .unset, .unset, .unset, .unset, .unset, .unset, .unset, .unset, .unset, .unset, .unset, .unset, .unset, .unset] [(.ref ob)]))
    refine own_by (fun t kk_ => XS.astore X7.here hx rfl (hb hby at_68) rfl rfl (l' := #[.val (.int x0), .val (.int y0), .val (.int s0), .val (.int rr), .val (.int e0'), .val (.long t0), .second, .val (.int sm), .val (.int d), .val (.long q), .second, .val (.ref ob), .unset, .unset, .unset, .unset, .unset, .unset, .unset, .unset, .unset, .unset, .unset, .unset, .unset, .unset]) rfl kk_) ?_
    show OwnG p e below s _ _ _ (T7.setTop (mkF m 70 #[.val (.int x0), .val (.int y0), .val (.int s0), .val (.int rr), .val (.int e0'), .val (.long t0), .second, .val (.int sm), .val (.int d), .val (.long q), .second, .val (.ref ob), .unset, .unset, .unset, .unset, .unset, .unset, .unset, .unset, .unset, .unset, .unset, .unset, .unset, .unset] []))
    refine own_by (fun t kk_ => XS.aload X7.here hx rfl (hb hby at_70) rfl rfl kk_) ?_
    show OwnG p e below s _ _ _ (T7.setTop (mkF m 72 #[.val (.int x0), .val (.int y0), .val (.int s0), .val (.int rr), .val (.int e0'), .val (.long t0), .second, .val (.int sm), .val (.int d), .val (.long q), .second, .val (.ref ob), .unset, .unset, .unset, .unset, .unset, .unset, .unset, .unset, .unset, .unset, .unset, .unset, .unset, .unset] [(.ref ob)]))
    obtain ⟨cq8, kq8, q8a, q8b, q8c⟩ := isOf hZ (rfl : T7.heap = T7.heap) x7
    obtain ⟨_, _, ⟨T8, L8, k8, n8⟩, -, X8, ⟨Lc8, hQ8, l8, y8, z8⟩, st8⟩ := X7.virtualBack hx (y := (⟨"com/example/iota_ranker/iotaranker/index/CollectionStatistics", "averageDocumentLength", "()D"⟩ : MethodName)) (z := (⟨"com/example/iota_ranker/iotaranker/index/CollectionStatistics", "averageDocumentLength", "()D"⟩ : MethodName)) hown (mvT hZ (hw _ (List.mem_of_getElem? (i := 20) rfl))) (mvT hZ (hw _ (List.mem_of_getElem? (i := 21) rfl))) (notFace_of_selects (args := #[]) (mvT hZ (hw _ (List.mem_of_getElem? (i := 23) rfl)))) (mvT hZ (hw _ (List.mem_of_getElem? (i := 23) rfl))) (mvT hZ (hw _ (List.mem_of_getElem? (i := 22) rfl))) (by decide) (backOf (W := 0) (rm3z l Z a0 hw [] ob (0 : Int32) t0 T7.heap n0 sz7 fd7 ft7 rfl) hZ (hw _ (List.mem_of_getElem? (i := 24) rfl)) (hw _ (List.mem_of_getElem? (i := 3) rfl)) (by decide) (by decide)) q8a q8c (g := (mkF m 72 #[.val (.int x0), .val (.int y0), .val (.int s0), .val (.int rr), .val (.int e0'), .val (.long t0), .second, .val (.int sm), .val (.int d), .val (.long q), .second, .val (.ref ob), .unset, .unset, .unset, .unset, .unset, .unset, .unset, .unset, .unset, .unset, .unset, .unset, .unset, .unset] [(.ref ob)])) rfl (by rw [hml]; rfl) (Steps.refl _) (argsL := []) (rest := []) (lenOf pd_2 rfl) rfl (by show 2 * 0 + _ ≤ _; exact Nat.le_of_eq rfl) (hb hby at_72) (fun _ _ => ⟨rfl, (rfl : T7.heap = T7.heap), (by decide : 0 + 1 + 0 ≤ _), (by decide : 0 + 5 + 0 ≤ _)⟩)
    dsimp only [Pt.U, Pt.locs, Pt.cells, Pt.slots] at X8 l8 y8 z8 st8 hQ8
    subst l8 y8 z8
    refine own_by (fun t kk_ => st8.trans kk_) ?_
    obtain ⟨rfl, N8q, hh8⟩ := hQ8
    have N8 := Fr.app N7 N8q
    have f9 := x7
    rw [← hh8] at f9
    have f10 := fd7
    rw [← hh8] at f10
    have f11 := ft7
    rw [← hh8] at f11
    have sz8 : n0 ≤ T8.heap.size := by rw [hh8]; exact sz7
    show OwnG p e below s _ _ _ (T8.setTop (mkF m 75 #[.val (.int x0), .val (.int y0), .val (.int s0), .val (.int rr), .val (.int e0'), .val (.long t0), .second, .val (.int sm), .val (.int d), .val (.long q), .second, .val (.ref ob), .unset, .unset, .unset, .unset, .unset, .unset, .unset, .unset, .unset, .unset, .unset, .unset, .unset, .unset] [(.double FP.dconst0)]))
    refine own_by (fun t kk_ => XS.dstore X8.here hx rfl (hb hby at_75) rfl (l' := #[.val (.int x0), .val (.int y0), .val (.int s0), .val (.int rr), .val (.int e0'), .val (.long t0), .second, .val (.int sm), .val (.int d), .val (.long q), .second, .val (.ref ob), .val (.double FP.dconst0), .second, .unset, .unset, .unset, .unset, .unset, .unset, .unset, .unset, .unset, .unset, .unset, .unset]) rfl kk_) ?_
    show OwnG p e below s _ _ _ (T8.setTop (mkF m 77 #[.val (.int x0), .val (.int y0), .val (.int s0), .val (.int rr), .val (.int e0'), .val (.long t0), .second, .val (.int sm), .val (.int d), .val (.long q), .second, .val (.ref ob), .val (.double FP.dconst0), .second, .unset, .unset, .unset, .unset, .unset, .unset, .unset, .unset, .unset, .unset, .unset, .unset] []))
    refine own_by (fun t kk_ => XS.dload X8.here hx rfl (hb hby at_77) rfl  kk_) ?_
    show OwnG p e below s _ _ _ (T8.setTop (mkF m 79 #[.val (.int x0), .val (.int y0), .val (.int s0), .val (.int rr), .val (.int e0'), .val (.long t0), .second, .val (.int sm), .val (.int d), .val (.long q), .second, .val (.ref ob), .val (.double FP.dconst0), .second, .unset, .unset, .unset, .unset, .unset, .unset, .unset, .unset, .unset, .unset, .unset, .unset] [(.double FP.dconst0)]))
    refine own_by (fun t kk_ => XS.dconst0 X8.here hx rfl (hb hby at_79) rfl kk_) ?_
    show OwnG p e below s _ _ _ (T8.setTop (mkF m 80 #[.val (.int x0), .val (.int y0), .val (.int s0), .val (.int rr), .val (.int e0'), .val (.long t0), .second, .val (.int sm), .val (.int d), .val (.long q), .second, .val (.ref ob), .val (.double FP.dconst0), .second, .unset, .unset, .unset, .unset, .unset, .unset, .unset, .unset, .unset, .unset, .unset, .unset] [(.double FP.dconst0), (.double FP.dconst0)]))
    refine own_by (fun t kk_ => XS.dcmpS X8.here hx rfl (hb hby at_80) rfl rfl kk_) ?_
    show OwnG p e below s _ _ _ (T8.setTop (mkF m 81 #[.val (.int x0), .val (.int y0), .val (.int s0), .val (.int rr), .val (.int e0'), .val (.long t0), .second, .val (.int sm), .val (.int d), .val (.long q), .second, .val (.ref ob), .val (.double FP.dconst0), .second, .unset, .unset, .unset, .unset, .unset, .unset, .unset, .unset, .unset, .unset, .unset, .unset] [(.int (cmpValue (FP.dcmp FP.dconst0 FP.dconst0) .l))]))
    refine own_by (fun t kk_ => XS.ifNo X8.here hx rfl (hb hby at_81) rfl ((if0 _ _).trans (teq (by decide)).2) kk_) ?_
    show OwnG p e below s _ _ _ (T8.setTop (mkF m 84 #[.val (.int x0), .val (.int y0), .val (.int s0), .val (.int rr), .val (.int e0'), .val (.long t0), .second, .val (.int sm), .val (.int d), .val (.long q), .second, .val (.ref ob), .val (.double FP.dconst0), .second, .unset, .unset, .unset, .unset, .unset, .unset, .unset, .unset, .unset, .unset, .unset, .unset] []))
    refine own_by (fun t kk_ => XS.iconst X8.here hx rfl (hb hby at_84) kk_) ?_
    show OwnG p e below s _ _ _ (T8.setTop (mkF m 85 #[.val (.int x0), .val (.int y0), .val (.int s0), .val (.int rr), .val (.int e0'), .val (.long t0), .second, .val (.int sm), .val (.int d), .val (.long q), .second, .val (.ref ob), .val (.double FP.dconst0), .second, .unset, .unset, .unset, .unset, .unset, .unset, .unset, .unset, .unset, .unset, .unset, .unset] [(.int (1 : Int32))]))
    refine own_by (fun t kk_ => XS.goto X8.here hx rfl (pc0 := 85) (pc' := 89) rfl (hb hby at_85) (by decide) (by decide) kk_) ?_
    show OwnG p e below s _ _ _ (T8.setTop (mkF m 89 #[.val (.int x0), .val (.int y0), .val (.int s0), .val (.int rr), .val (.int e0'), .val (.long t0), .second, .val (.int sm), .val (.int d), .val (.long q), .second, .val (.ref ob), .val (.double FP.dconst0), .second, .unset, .unset, .unset, .unset, .unset, .unset, .unset, .unset, .unset, .unset, .unset, .unset] [(.int (1 : Int32))]))
    exact own_outN X8 hx hret (by simp) hlk (hb hby at_89) rfl (⟨rfl, N8⟩) (by decide) (by decide)
  · refine own_by (fun t kk_ => XS.ifYes X0.here hx rfl (pc0 := 50) (pc' := 90) rfl (hb hby at_50) rfl ((if0 _ _).trans (feq hd0).2) (by decide) (by decide) kk_) ?_
    show OwnG p e below s _ _ _ (T0.setTop (mkF m 90 #[.val (.int x0), .val (.int y0), .val (.int s0), .val (.int rr), .val (.int e0'), .val (.long t0), .second, .val (.int sm), .val (.int d), .val (.long q), .second, .unset, .unset, .unset, .unset, .unset, .unset, .unset, .unset, .unset, .unset, .unset, .unset, .unset, .unset, .unset] []))
    refine own_by (fun t kk_ => XS.iloadN X0.here hx rfl (hb hby at_90) rfl  kk_) ?_
    show OwnG p e below s _ _ _ (T0.setTop (mkF m 91 #[.val (.int x0), .val (.int y0), .val (.int s0), .val (.int rr), .val (.int e0'), .val (.long t0), .second, .val (.int sm), .val (.int d), .val (.long q), .second, .unset, .unset, .unset, .unset, .unset, .unset, .unset, .unset, .unset, .unset, .unset, .unset, .unset, .unset, .unset] [(.int rr)]))
    refine own_by (fun t kk_ => X0.ldcInt hx hown (mvT hZ (hw _ (List.mem_of_getElem? (i := 0) rfl))) (g := (mkF m 91 #[.val (.int x0), .val (.int y0), .val (.int s0), .val (.int rr), .val (.int e0'), .val (.long t0), .second, .val (.int sm), .val (.int d), .val (.long q), .second, .unset, .unset, .unset, .unset, .unset, .unset, .unset, .unset, .unset, .unset, .unset, .unset, .unset, .unset, .unset] [(.int rr)])) rfl (hb hby at_91) _ kk_) ?_
    show OwnG p e below s _ _ _ (T0.setTop (mkF m 93 #[.val (.int x0), .val (.int y0), .val (.int s0), .val (.int rr), .val (.int e0'), .val (.long t0), .second, .val (.int sm), .val (.int d), .val (.long q), .second, .unset, .unset, .unset, .unset, .unset, .unset, .unset, .unset, .unset, .unset, .unset, .unset, .unset, .unset, .unset] [(.int (2147483647 : Int32)), (.int rr)]))
    refine own_by (fun t kk_ => XS.iand X0.here hx rfl (hb hby at_93) rfl kk_) ?_
    show OwnG p e below s _ _ _ (T0.setTop (mkF m 94 #[.val (.int x0), .val (.int y0), .val (.int s0), .val (.int rr), .val (.int e0'), .val (.long t0), .second, .val (.int sm), .val (.int d), .val (.long q), .second, .unset, .unset, .unset, .unset, .unset, .unset, .unset, .unset, .unset, .unset, .unset, .unset, .unset, .unset, .unset] [(.int (rr &&& (2147483647 : Int32)))]))
    refine own_by (fun t kk_ => XS.iload X0.here hx rfl (hb hby at_94) rfl  kk_) ?_
    show OwnG p e below s _ _ _ (T0.setTop (mkF m 96 #[.val (.int x0), .val (.int y0), .val (.int s0), .val (.int rr), .val (.int e0'), .val (.long t0), .second, .val (.int sm), .val (.int d), .val (.long q), .second, .unset, .unset, .unset, .unset, .unset, .unset, .unset, .unset, .unset, .unset, .unset, .unset, .unset, .unset, .unset] [(.int d), (.int (rr &&& (2147483647 : Int32)))]))
    refine own_by (fun t kk_ => XS.irem X0.here hx rfl (hb hby at_96) rfl hd0 kk_) ?_
    show OwnG p e below s _ _ _ (T0.setTop (mkF m 97 #[.val (.int x0), .val (.int y0), .val (.int s0), .val (.int rr), .val (.int e0'), .val (.long t0), .second, .val (.int sm), .val (.int d), .val (.long q), .second, .unset, .unset, .unset, .unset, .unset, .unset, .unset, .unset, .unset, .unset, .unset, .unset, .unset, .unset, .unset] [(.int ((rr &&& (2147483647 : Int32)) - ((rr &&& (2147483647 : Int32)) / d) * d))]))
    refine own_by (fun t kk_ => XS.i2l X0.here hx rfl (hb hby at_97) rfl kk_) ?_
    show OwnG p e below s _ _ _ (T0.setTop (mkF m 98 #[.val (.int x0), .val (.int y0), .val (.int s0), .val (.int rr), .val (.int e0'), .val (.long t0), .second, .val (.int sm), .val (.int d), .val (.long q), .second, .unset, .unset, .unset, .unset, .unset, .unset, .unset, .unset, .unset, .unset, .unset, .unset, .unset, .unset, .unset] [(.long (((rr &&& (2147483647 : Int32)) - ((rr &&& (2147483647 : Int32)) / d) * d).toInt64))]))
    have hd := own_pos hB.1 hd0
    have hr := own_r rr d hd
    generalize (((rr &&& (2147483647 : Int32)) - ((rr &&& (2147483647 : Int32)) / d) * d).toInt64) = r at hr ⊢
    show OwnG p e below s _ _ _ (T0.setTop (mkF m 98 #[.val (.int x0), .val (.int y0), .val (.int s0), .val (.int rr), .val (.int e0'), .val (.long t0), .second, .val (.int sm), .val (.int d), .val (.long q), .second, .unset, .unset, .unset, .unset, .unset, .unset, .unset, .unset, .unset, .unset, .unset, .unset, .unset, .unset, .unset] [(.long r)]))
    refine own_by (fun t kk_ => XS.lstore X0.here hx rfl (hb hby at_98) rfl (l' := #[.val (.int x0), .val (.int y0), .val (.int s0), .val (.int rr), .val (.int e0'), .val (.long t0), .second, .val (.int sm), .val (.int d), .val (.long q), .second, .val (.long r), .second, .unset, .unset, .unset, .unset, .unset, .unset, .unset, .unset, .unset, .unset, .unset, .unset, .unset]) rfl kk_) ?_
    show OwnG p e below s _ _ _ (T0.setTop (mkF m 100 #[.val (.int x0), .val (.int y0), .val (.int s0), .val (.int rr), .val (.int e0'), .val (.long t0), .second, .val (.int sm), .val (.int d), .val (.long q), .second, .val (.long r), .second, .unset, .unset, .unset, .unset, .unset, .unset, .unset, .unset, .unset, .unset, .unset, .unset, .unset] []))
    refine own_by (fun t kk_ => XS.lload X0.here hx rfl (hb hby at_100) rfl  kk_) ?_
    show OwnG p e below s _ _ _ (T0.setTop (mkF m 102 #[.val (.int x0), .val (.int y0), .val (.int s0), .val (.int rr), .val (.int e0'), .val (.long t0), .second, .val (.int sm), .val (.int d), .val (.long q), .second, .val (.long r), .second, .unset, .unset, .unset, .unset, .unset, .unset, .unset, .unset, .unset, .unset, .unset, .unset, .unset] [(.long q)]))
    refine own_by (fun t kk_ => XS.iload X0.here hx rfl (hb hby at_102) rfl  kk_) ?_
    show OwnG p e below s _ _ _ (T0.setTop (mkF m 104 #[.val (.int x0), .val (.int y0), .val (.int s0), .val (.int rr), .val (.int e0'), .val (.long t0), .second, .val (.int sm), .val (.int d), .val (.long q), .second, .val (.long r), .second, .unset, .unset, .unset, .unset, .unset, .unset, .unset, .unset, .unset, .unset, .unset, .unset, .unset] [(.int d), (.long q)]))
    refine own_by (fun t kk_ => XS.i2l X0.here hx rfl (hb hby at_104) rfl kk_) ?_
    show OwnG p e below s _ _ _ (T0.setTop (mkF m 105 #[.val (.int x0), .val (.int y0), .val (.int s0), .val (.int rr), .val (.int e0'), .val (.long t0), .second, .val (.int sm), .val (.int d), .val (.long q), .second, .val (.long r), .second, .unset, .unset, .unset, .unset, .unset, .unset, .unset, .unset, .unset, .unset, .unset, .unset, .unset] [(.long (d.toInt64)), (.long q)]))
    refine own_by (fun t kk_ => XS.lmul X0.here hx rfl (hb hby at_105) rfl kk_) ?_
    show OwnG p e below s _ _ _ (T0.setTop (mkF m 106 #[.val (.int x0), .val (.int y0), .val (.int s0), .val (.int rr), .val (.int e0'), .val (.long t0), .second, .val (.int sm), .val (.int d), .val (.long q), .second, .val (.long r), .second, .unset, .unset, .unset, .unset, .unset, .unset, .unset, .unset, .unset, .unset, .unset, .unset, .unset] [(.long (q * (d.toInt64)))]))
    refine own_by (fun t kk_ => XS.lload X0.here hx rfl (hb hby at_106) rfl  kk_) ?_
    show OwnG p e below s _ _ _ (T0.setTop (mkF m 108 #[.val (.int x0), .val (.int y0), .val (.int s0), .val (.int rr), .val (.int e0'), .val (.long t0), .second, .val (.int sm), .val (.int d), .val (.long q), .second, .val (.long r), .second, .unset, .unset, .unset, .unset, .unset, .unset, .unset, .unset, .unset, .unset, .unset, .unset, .unset] [(.long r), (.long (q * (d.toInt64)))]))
    refine own_by (fun t kk_ => XS.ladd X0.here hx rfl (hb hby at_108) rfl kk_) ?_
    show OwnG p e below s _ _ _ (T0.setTop (mkF m 109 #[.val (.int x0), .val (.int y0), .val (.int s0), .val (.int rr), .val (.int e0'), .val (.long t0), .second, .val (.int sm), .val (.int d), .val (.long q), .second, .val (.long r), .second, .unset, .unset, .unset, .unset, .unset, .unset, .unset, .unset, .unset, .unset, .unset, .unset, .unset] [(.long ((q * (d.toInt64)) + r))]))
    obtain ⟨hT, hT1, hT2⟩ := own_tok hB hr.1 hr.2
    generalize ((q * (d.toInt64)) + r) = tok at hT hT1 hT2 ⊢
    obtain ⟨va, hva, q1, q2, q3, q4, q5, q6⟩ := own_avg hd hT hT1 hT2 hB.2.1 hB.2.2.1 hr.1 hr.2
    have hlo := own_lo hB.2.1 hB.2.2.1
    have hmid := own_mid hB.2.1 hB.2.2.1
    have hhi := own_hi hB.2.1 hB.2.2.1
    show OwnG p e below s _ _ _ (T0.setTop (mkF m 109 #[.val (.int x0), .val (.int y0), .val (.int s0), .val (.int rr), .val (.int e0'), .val (.long t0), .second, .val (.int sm), .val (.int d), .val (.long q), .second, .val (.long r), .second, .unset, .unset, .unset, .unset, .unset, .unset, .unset, .unset, .unset, .unset, .unset, .unset, .unset] [(.long tok)]))
    refine own_by (fun t kk_ => XS.lstore X0.here hx rfl (hb hby at_109) rfl (l' := #[.val (.int x0), .val (.int y0), .val (.int s0), .val (.int rr), .val (.int e0'), .val (.long t0), .second, .val (.int sm), .val (.int d), .val (.long q), .second, .val (.long r), .second, .val (.long tok), .second, .unset, .unset, .unset, .unset, .unset, .unset, .unset, .unset, .unset, .unset, .unset]) rfl kk_) ?_
    show OwnG p e below s _ _ _ (T0.setTop (mkF m 111 #[.val (.int x0), .val (.int y0), .val (.int s0), .val (.int rr), .val (.int e0'), .val (.long t0), .second, .val (.int sm), .val (.int d), .val (.long q), .second, .val (.long r), .second, .val (.long tok), .second, .unset, .unset, .unset, .unset, .unset, .unset, .unset, .unset, .unset, .unset, .unset] []))
    obtain ⟨T12, h12, X12, e12, E12, A12, D12, -, st12⟩ := newO X0 hx hZ hown (hw _ (List.mem_of_getElem? (i := 1) rfl)) (hw _ (List.mem_of_getElem? (i := 2) rfl)) (hw _ (List.mem_of_getElem? (i := 3) rfl)) e0 (g := (mkF m 111 #[.val (.int x0), .val (.int y0), .val (.int s0), .val (.int rr), .val (.int e0'), .val (.long t0), .second, .val (.int sm), .val (.int d), .val (.long q), .second, .val (.long r), .second, .val (.long tok), .second, .unset, .unset, .unset, .unset, .unset, .unset, .unset, .unset, .unset, .unset, .unset] [])) rfl (hb hby at_111) (by decide) (by decide)
    obtain ⟨ob, g12⟩ : ∃ z, z = h0.size := ⟨_, rfl⟩
    rw [← g12] at A12 D12 st12
    have gg_ob : n0 ≤ ob := by rw [g12]; exact Z0
    have sz12 : n0 ≤ h12.size := Nat.le_trans Z0 E12.1
    refine own_by (fun t kk_ => st12 _ kk_) ?_
    have f13 : Fld Z h12 ob "com/example/iota_ranker/iotaranker/index/CollectionStatistics" "documents" "I" (.int (0 : Int32)) := D12 (Or.inr (hw _ (List.mem_of_getElem? (i := 11) rfl))) (ty := .int) (by decide)
    have f14 : Fld Z h12 ob "com/example/iota_ranker/iotaranker/index/CollectionStatistics" "emptyDocuments" "I" (.int (0 : Int32)) := D12 (Or.inr (hw _ (List.mem_of_getElem? (i := 13) rfl))) (ty := .int) (by decide)
    have f15 : Fld Z h12 ob "com/example/iota_ranker/iotaranker/index/CollectionStatistics" "tokens" "J" (.long (0 : Int64)) := D12 (Or.inr (hw _ (List.mem_of_getElem? (i := 15) rfl))) (ty := .long) (by decide)
    have f16 : Fld Z h12 ob "com/example/iota_ranker/iotaranker/index/CollectionStatistics" "terms" "I" (.int (0 : Int32)) := D12 (Or.inr (hw _ (List.mem_of_getElem? (i := 17) rfl))) (ty := .int) (by decide)
    have f17 : Fld Z h12 ob "com/example/iota_ranker/iotaranker/index/CollectionStatistics" "postings" "J" (.long (0 : Int64)) := D12 (Or.inr (hw _ (List.mem_of_getElem? (i := 19) rfl))) (ty := .long) (by decide)
    show OwnG p e below s _ _ _ (T12.setTop (mkF m 114 #[.val (.int x0), .val (.int y0), .val (.int s0), .val (.int rr), .val (.int e0'), .val (.long t0), .second, .val (.int sm), .val (.int d), .val (.long q), .second, .val (.long r), .second, .val (.long tok), .second, .unset, .unset, .unset, .unset, .unset, .unset, .unset, .unset, .unset, .unset, .unset] [(.ref ob)]))
    refine own_by (fun t kk_ => XS.dup X12.here hx rfl (hb hby at_114) rfl rfl kk_) ?_
    show OwnG p e below s _ _ _ (T12.setTop (mkF m 115 #[.val (.int x0), .val (.int y0), .val (.int s0), .val (.int rr), .val (.int e0'), .val (.long t0), .second, .val (.int sm), .val (.int d), .val (.long q), .second, .val (.long r), .second, .val (.long tok), .second, .unset, .unset, .unset, .unset, .unset, .unset, .unset, .unset, .unset, .unset, .unset] [(.ref ob), (.ref ob)]))
    refine own_by (fun t kk_ => XS.iload X12.here hx rfl (hb hby at_115) rfl  kk_) ?_
    show OwnG p e below s _ _ _ (T12.setTop (mkF m 117 #[.val (.int x0), .val (.int y0), .val (.int s0), .val (.int rr), .val (.int e0'), .val (.long t0), .second, .val (.int sm), .val (.int d), .val (.long q), .second, .val (.long r), .second, .val (.long tok), .second, .unset, .unset, .unset, .unset, .unset, .unset, .unset, .unset, .unset, .unset, .unset] [(.int d), (.ref ob), (.ref ob)]))
    refine own_by (fun t kk_ => XS.iload X12.here hx rfl (hb hby at_117) rfl  kk_) ?_
    show OwnG p e below s _ _ _ (T12.setTop (mkF m 119 #[.val (.int x0), .val (.int y0), .val (.int s0), .val (.int rr), .val (.int e0'), .val (.long t0), .second, .val (.int sm), .val (.int d), .val (.long q), .second, .val (.long r), .second, .val (.long tok), .second, .unset, .unset, .unset, .unset, .unset, .unset, .unset, .unset, .unset, .unset, .unset] [(.int e0'), (.int d), (.ref ob), (.ref ob)]))
    refine own_by (fun t kk_ => XS.lload X12.here hx rfl (hb hby at_119) rfl  kk_) ?_
    show OwnG p e below s _ _ _ (T12.setTop (mkF m 121 #[.val (.int x0), .val (.int y0), .val (.int s0), .val (.int rr), .val (.int e0'), .val (.long t0), .second, .val (.int sm), .val (.int d), .val (.long q), .second, .val (.long r), .second, .val (.long tok), .second, .unset, .unset, .unset, .unset, .unset, .unset, .unset, .unset, .unset, .unset, .unset] [(.long tok), (.int e0'), (.int d), (.ref ob), (.ref ob)]))
    refine own_by (fun t kk_ => XS.iloadN X12.here hx rfl (hb hby at_121) rfl  kk_) ?_
    show OwnG p e below s _ _ _ (T12.setTop (mkF m 122 #[.val (.int x0), .val (.int y0), .val (.int s0), .val (.int rr), .val (.int e0'), .val (.long t0), .second, .val (.int sm), .val (.int d), .val (.long q), .second, .val (.long r), .second, .val (.long tok), .second, .unset, .unset, .unset, .unset, .unset, .unset, .unset, .unset, .unset, .unset, .unset] [(.int s0), (.long tok), (.int e0'), (.int d), (.ref ob), (.ref ob)]))
    refine own_by (fun t kk_ => XS.lload X12.here hx rfl (hb hby at_122) rfl  kk_) ?_
    show OwnG p e below s _ _ _ (T12.setTop (mkF m 124 #[.val (.int x0), .val (.int y0), .val (.int s0), .val (.int rr), .val (.int e0'), .val (.long t0), .second, .val (.int sm), .val (.int d), .val (.long q), .second, .val (.long r), .second, .val (.long tok), .second, .unset, .unset, .unset, .unset, .unset, .unset, .unset, .unset, .unset, .unset, .unset] [(.long t0), (.int s0), (.long tok), (.int e0'), (.int d), (.ref ob), (.ref ob)]))
    obtain ⟨_, _, ⟨T18, L18, k18, n18⟩, -, X18, ⟨Lc18, hQ18, l18, y18, z18⟩, st18⟩ := X12.specialBack hx (y := (⟨"com/example/iota_ranker/iotaranker/index/CollectionStatistics", "<init>", "(IIJIJ)V"⟩ : MethodName)) rfl hown (mvT hZ (hw _ (List.mem_of_getElem? (i := 4) rfl))) (mvT hZ (hw _ (List.mem_of_getElem? (i := 5) rfl))) (mvT hZ (hw _ (List.mem_of_getElem? (i := 6) rfl))) (by decide) (backOf (W := 1) (rm1 l Z a0 hw [] ob d e0' tok s0 t0 h12 n0 sz12 A12 f13 f14 f15 f16 f17 gg_ob) hZ (hw _ (List.mem_of_getElem? (i := 6) rfl)) (hw _ (List.mem_of_getElem? (i := 3) rfl)) (by decide) (by decide)) (g := (mkF m 124 #[.val (.int x0), .val (.int y0), .val (.int s0), .val (.int rr), .val (.int e0'), .val (.long t0), .second, .val (.int sm), .val (.int d), .val (.long q), .second, .val (.long r), .second, .val (.long tok), .second, .unset, .unset, .unset, .unset, .unset, .unset, .unset, .unset, .unset, .unset, .unset] [(.long t0), (.int s0), (.long tok), (.int e0'), (.int d), (.ref ob), (.ref ob)])) rfl (by rw [hml]; rfl) (Steps.refl _) (a := ob) (argsL := [(.int d), (.int e0'), (.long tok), (.int s0), (.long t0)]) (rest := [(.ref ob)]) (lenOf pd_1 rfl) rfl (by show 2 * 0 + _ ≤ _; exact Nat.le_of_eq rfl) (hb hby at_124) (fun _ _ => ⟨rfl, e12, (by decide : 0 + 1 + 0 ≤ _), (by decide : 0 + 5 + 0 ≤ _)⟩)
    dsimp only [Pt.U, Pt.locs, Pt.cells, Pt.slots] at X18 l18 y18 z18 st18 hQ18
    subst l18 y18 z18
    refine own_by (fun t kk_ => st18.trans kk_) ?_
    obtain ⟨rfl, N18q, x18, fd18, ft18⟩ := hQ18
    have N18 := Fr.app N0 N18q
    have sz18 : n0 ≤ T18.heap.size := Nat.le_trans gg_ob (Nat.le_of_lt x18.lt)
    show OwnG p e below s _ _ _ (T18.setTop (mkF m 127 #[.val (.int x0), .val (.int y0), .val (.int s0), .val (.int rr), .val (.int e0'), .val (.long t0), .second, .val (.int sm), .val (.int d), .val (.long q), .second, .val (.long r), .second, .val (.long tok), .second, .unset, .unset, .unset, .unset, .unset, .unset, .unset, .unset, .unset, .unset, .unset] [(.ref ob)]))
    refine own_by (fun t kk_ => XS.astore X18.here hx rfl (hb hby at_127) rfl rfl (l' := #[.val (.int x0), .val (.int y0), .val (.int s0), .val (.int rr), .val (.int e0'), .val (.long t0), .second, .val (.int sm), .val (.int d), .val (.long q), .second, .val (.long r), .second, .val (.long tok), .second, .val (.ref ob), .unset, .unset, .unset, .unset, .unset, .unset, .unset, .unset, .unset, .unset]) rfl kk_) ?_
    show OwnG p e below s _ _ _ (T18.setTop (mkF m 129 #[.val (.int x0), .val (.int y0), .val (.int s0), .val (.int rr), .val (.int e0'), .val (.long t0), .second, .val (.int sm), .val (.int d), .val (.long q), .second, .val (.long r), .second, .val (.long tok), .second, .val (.ref ob), .unset, .unset, .unset, .unset, .unset, .unset, .unset, .unset, .unset, .unset] []))
    refine own_by (fun t kk_ => XS.aload X18.here hx rfl (hb hby at_129) rfl rfl kk_) ?_
    show OwnG p e below s _ _ _ (T18.setTop (mkF m 131 #[.val (.int x0), .val (.int y0), .val (.int s0), .val (.int rr), .val (.int e0'), .val (.long t0), .second, .val (.int sm), .val (.int d), .val (.long q), .second, .val (.long r), .second, .val (.long tok), .second, .val (.ref ob), .unset, .unset, .unset, .unset, .unset, .unset, .unset, .unset, .unset, .unset] [(.ref ob)]))
    obtain ⟨cq19, kq19, q19a, q19b, q19c⟩ := isOf hZ (rfl : T18.heap = T18.heap) x18
    obtain ⟨_, _, ⟨T19, L19, k19, n19⟩, -, X19, ⟨Lc19, hQ19, l19, y19, z19⟩, st19⟩ := X18.virtualBack hx (y := (⟨"com/example/iota_ranker/iotaranker/index/CollectionStatistics", "averageDocumentLength", "()D"⟩ : MethodName)) (z := (⟨"com/example/iota_ranker/iotaranker/index/CollectionStatistics", "averageDocumentLength", "()D"⟩ : MethodName)) hown (mvT hZ (hw _ (List.mem_of_getElem? (i := 20) rfl))) (mvT hZ (hw _ (List.mem_of_getElem? (i := 21) rfl))) (notFace_of_selects (args := #[]) (mvT hZ (hw _ (List.mem_of_getElem? (i := 23) rfl)))) (mvT hZ (hw _ (List.mem_of_getElem? (i := 23) rfl))) (mvT hZ (hw _ (List.mem_of_getElem? (i := 22) rfl))) (by decide) (backOf (W := 0) (rm3p l Z a0 hw [] ob d tok T18.heap n0 sz18 fd18 ft18 hd0) hZ (hw _ (List.mem_of_getElem? (i := 24) rfl)) (hw _ (List.mem_of_getElem? (i := 3) rfl)) (by decide) (by decide)) q19a q19c (g := (mkF m 131 #[.val (.int x0), .val (.int y0), .val (.int s0), .val (.int rr), .val (.int e0'), .val (.long t0), .second, .val (.int sm), .val (.int d), .val (.long q), .second, .val (.long r), .second, .val (.long tok), .second, .val (.ref ob), .unset, .unset, .unset, .unset, .unset, .unset, .unset, .unset, .unset, .unset] [(.ref ob)])) rfl (by rw [hml]; rfl) (Steps.refl _) (argsL := []) (rest := []) (lenOf pd_2 rfl) rfl (by show 2 * 0 + _ ≤ _; exact Nat.le_of_eq rfl) (hb hby at_131) (fun _ _ => ⟨rfl, (rfl : T18.heap = T18.heap), (by decide : 0 + 1 + 0 ≤ _), (by decide : 0 + 5 + 0 ≤ _)⟩)
    dsimp only [Pt.U, Pt.locs, Pt.cells, Pt.slots] at X19 l19 y19 z19 st19 hQ19
    subst l19 y19 z19
    refine own_by (fun t kk_ => st19.trans kk_) ?_
    obtain ⟨rfl, N19q, hh19⟩ := hQ19
    have N19 := Fr.app N18 N19q
    have f20 := x18
    rw [← hh19] at f20
    have f21 := fd18
    rw [← hh19] at f21
    have f22 := ft18
    rw [← hh19] at f22
    have sz19 : n0 ≤ T19.heap.size := by rw [hh19]; exact sz18
    show OwnG p e below s _ _ _ (T19.setTop (mkF m 134 #[.val (.int x0), .val (.int y0), .val (.int s0), .val (.int rr), .val (.int e0'), .val (.long t0), .second, .val (.int sm), .val (.int d), .val (.long q), .second, .val (.long r), .second, .val (.long tok), .second, .val (.ref ob), .unset, .unset, .unset, .unset, .unset, .unset, .unset, .unset, .unset, .unset] [(.double (FP.ddiv (FP.l2d tok) (FP.i2d d)))]))
    refine own_by (fun t kk_ => XS.dstore X19.here hx rfl (hb hby at_134) rfl (l' := #[.val (.int x0), .val (.int y0), .val (.int s0), .val (.int rr), .val (.int e0'), .val (.long t0), .second, .val (.int sm), .val (.int d), .val (.long q), .second, .val (.long r), .second, .val (.long tok), .second, .val (.ref ob), .val (.double (FP.ddiv (FP.l2d tok) (FP.i2d d))), .second, .unset, .unset, .unset, .unset, .unset, .unset, .unset, .unset]) rfl kk_) ?_
    show OwnG p e below s _ _ _ (T19.setTop (mkF m 136 #[.val (.int x0), .val (.int y0), .val (.int s0), .val (.int rr), .val (.int e0'), .val (.long t0), .second, .val (.int sm), .val (.int d), .val (.long q), .second, .val (.long r), .second, .val (.long tok), .second, .val (.ref ob), .val (.double (FP.ddiv (FP.l2d tok) (FP.i2d d))), .second, .unset, .unset, .unset, .unset, .unset, .unset, .unset, .unset] []))
    refine own_by (fun t kk_ => XS.lload X19.here hx rfl (hb hby at_136) rfl  kk_) ?_
    show OwnG p e below s _ _ _ (T19.setTop (mkF m 138 #[.val (.int x0), .val (.int y0), .val (.int s0), .val (.int rr), .val (.int e0'), .val (.long t0), .second, .val (.int sm), .val (.int d), .val (.long q), .second, .val (.long r), .second, .val (.long tok), .second, .val (.ref ob), .val (.double (FP.ddiv (FP.l2d tok) (FP.i2d d))), .second, .unset, .unset, .unset, .unset, .unset, .unset, .unset, .unset] [(.long q)]))
    refine own_by (fun t kk_ => XS.l2dS X19.here hx rfl (hb hby at_138) rfl rfl kk_) ?_
    show OwnG p e below s _ _ _ (T19.setTop (mkF m 139 #[.val (.int x0), .val (.int y0), .val (.int s0), .val (.int rr), .val (.int e0'), .val (.long t0), .second, .val (.int sm), .val (.int d), .val (.long q), .second, .val (.long r), .second, .val (.long tok), .second, .val (.ref ob), .val (.double (FP.ddiv (FP.l2d tok) (FP.i2d d))), .second, .unset, .unset, .unset, .unset, .unset, .unset, .unset, .unset] [(.double (FP.l2d q))]))
    refine own_by (fun t kk_ => XS.dstore X19.here hx rfl (hb hby at_139) rfl (l' := #[.val (.int x0), .val (.int y0), .val (.int s0), .val (.int rr), .val (.int e0'), .val (.long t0), .second, .val (.int sm), .val (.int d), .val (.long q), .second, .val (.long r), .second, .val (.long tok), .second, .val (.ref ob), .val (.double (FP.ddiv (FP.l2d tok) (FP.i2d d))), .second, .val (.double (FP.l2d q)), .second, .unset, .unset, .unset, .unset, .unset, .unset]) rfl kk_) ?_
    show OwnG p e below s _ _ _ (T19.setTop (mkF m 141 #[.val (.int x0), .val (.int y0), .val (.int s0), .val (.int rr), .val (.int e0'), .val (.long t0), .second, .val (.int sm), .val (.int d), .val (.long q), .second, .val (.long r), .second, .val (.long tok), .second, .val (.ref ob), .val (.double (FP.ddiv (FP.l2d tok) (FP.i2d d))), .second, .val (.double (FP.l2d q)), .second, .unset, .unset, .unset, .unset, .unset, .unset] []))
    refine own_by (fun t kk_ => XS.dload X19.here hx rfl (hb hby at_141) rfl  kk_) ?_
    show OwnG p e below s _ _ _ (T19.setTop (mkF m 143 #[.val (.int x0), .val (.int y0), .val (.int s0), .val (.int rr), .val (.int e0'), .val (.long t0), .second, .val (.int sm), .val (.int d), .val (.long q), .second, .val (.long r), .second, .val (.long tok), .second, .val (.ref ob), .val (.double (FP.ddiv (FP.l2d tok) (FP.i2d d))), .second, .val (.double (FP.l2d q)), .second, .unset, .unset, .unset, .unset, .unset, .unset] [(.double (FP.l2d q))]))
    refine own_by (fun t kk_ => X19.ldc2DoubleC hx hown (mvT hZ (hw _ (List.mem_of_getElem? (i := 26) rfl))) (g := (mkF m 143 #[.val (.int x0), .val (.int y0), .val (.int s0), .val (.int rr), .val (.int e0'), .val (.long t0), .second, .val (.int sm), .val (.int d), .val (.long q), .second, .val (.long r), .second, .val (.long tok), .second, .val (.ref ob), .val (.double (FP.ddiv (FP.l2d tok) (FP.i2d d))), .second, .val (.double (FP.l2d q)), .second, .unset, .unset, .unset, .unset, .unset, .unset] [(.double (FP.l2d q))])) rfl (hb hby at_143) _ kk_) ?_
    show OwnG p e below s _ _ _ (T19.setTop (mkF m 146 #[.val (.int x0), .val (.int y0), .val (.int s0), .val (.int rr), .val (.int e0'), .val (.long t0), .second, .val (.int sm), .val (.int d), .val (.long q), .second, .val (.long r), .second, .val (.long tok), .second, .val (.ref ob), .val (.double (FP.ddiv (FP.l2d tok) (FP.i2d d))), .second, .val (.double (FP.l2d q)), .second, .unset, .unset, .unset, .unset, .unset, .unset] [(.double (4602678819172646912 : UInt64)), (.double (FP.l2d q))]))
    refine own_by (fun t kk_ => XS.daddS X19.here hx rfl (hb hby at_146) rfl (own_fh q).noNaN rfl kk_) ?_
    show OwnG p e below s _ _ _ (T19.setTop (mkF m 147 #[.val (.int x0), .val (.int y0), .val (.int s0), .val (.int rr), .val (.int e0'), .val (.long t0), .second, .val (.int sm), .val (.int d), .val (.long q), .second, .val (.long r), .second, .val (.long tok), .second, .val (.ref ob), .val (.double (FP.ddiv (FP.l2d tok) (FP.i2d d))), .second, .val (.double (FP.l2d q)), .second, .unset, .unset, .unset, .unset, .unset, .unset] [(.double (FP.dadd (FP.l2d q) (4602678819172646912 : UInt64)))]))
    refine own_by (fun t kk_ => XS.dstore X19.here hx rfl (hb hby at_147) rfl (l' := #[.val (.int x0), .val (.int y0), .val (.int s0), .val (.int rr), .val (.int e0'), .val (.long t0), .second, .val (.int sm), .val (.int d), .val (.long q), .second, .val (.long r), .second, .val (.long tok), .second, .val (.ref ob), .val (.double (FP.ddiv (FP.l2d tok) (FP.i2d d))), .second, .val (.double (FP.l2d q)), .second, .val (.double (FP.dadd (FP.l2d q) (4602678819172646912 : UInt64))), .second, .unset, .unset, .unset, .unset]) rfl kk_) ?_
    show OwnG p e below s _ _ _ (T19.setTop (mkF m 149 #[.val (.int x0), .val (.int y0), .val (.int s0), .val (.int rr), .val (.int e0'), .val (.long t0), .second, .val (.int sm), .val (.int d), .val (.long q), .second, .val (.long r), .second, .val (.long tok), .second, .val (.ref ob), .val (.double (FP.ddiv (FP.l2d tok) (FP.i2d d))), .second, .val (.double (FP.l2d q)), .second, .val (.double (FP.dadd (FP.l2d q) (4602678819172646912 : UInt64))), .second, .unset, .unset, .unset, .unset] []))
    refine own_by (fun t kk_ => XS.dload X19.here hx rfl (hb hby at_149) rfl  kk_) ?_
    show OwnG p e below s _ _ _ (T19.setTop (mkF m 151 #[.val (.int x0), .val (.int y0), .val (.int s0), .val (.int rr), .val (.int e0'), .val (.long t0), .second, .val (.int sm), .val (.int d), .val (.long q), .second, .val (.long r), .second, .val (.long tok), .second, .val (.ref ob), .val (.double (FP.ddiv (FP.l2d tok) (FP.i2d d))), .second, .val (.double (FP.l2d q)), .second, .val (.double (FP.dadd (FP.l2d q) (4602678819172646912 : UInt64))), .second, .unset, .unset, .unset, .unset] [(.double (FP.l2d q))]))
    refine own_by (fun t kk_ => XS.dconst1 X19.here hx rfl (hb hby at_151) rfl kk_) ?_
    show OwnG p e below s _ _ _ (T19.setTop (mkF m 152 #[.val (.int x0), .val (.int y0), .val (.int s0), .val (.int rr), .val (.int e0'), .val (.long t0), .second, .val (.int sm), .val (.int d), .val (.long q), .second, .val (.long r), .second, .val (.long tok), .second, .val (.ref ob), .val (.double (FP.ddiv (FP.l2d tok) (FP.i2d d))), .second, .val (.double (FP.l2d q)), .second, .val (.double (FP.dadd (FP.l2d q) (4602678819172646912 : UInt64))), .second, .unset, .unset, .unset, .unset] [(.double FP.dconst1), (.double (FP.l2d q))]))
    refine own_by (fun t kk_ => XS.daddS X19.here hx rfl (hb hby at_152) rfl (own_f1 q).noNaN rfl kk_) ?_
    show OwnG p e below s _ _ _ (T19.setTop (mkF m 153 #[.val (.int x0), .val (.int y0), .val (.int s0), .val (.int rr), .val (.int e0'), .val (.long t0), .second, .val (.int sm), .val (.int d), .val (.long q), .second, .val (.long r), .second, .val (.long tok), .second, .val (.ref ob), .val (.double (FP.ddiv (FP.l2d tok) (FP.i2d d))), .second, .val (.double (FP.l2d q)), .second, .val (.double (FP.dadd (FP.l2d q) (4602678819172646912 : UInt64))), .second, .unset, .unset, .unset, .unset] [(.double (FP.dadd (FP.l2d q) FP.dconst1))]))
    refine own_by (fun t kk_ => XS.dstore X19.here hx rfl (hb hby at_153) rfl (l' := #[.val (.int x0), .val (.int y0), .val (.int s0), .val (.int rr), .val (.int e0'), .val (.long t0), .second, .val (.int sm), .val (.int d), .val (.long q), .second, .val (.long r), .second, .val (.long tok), .second, .val (.ref ob), .val (.double (FP.ddiv (FP.l2d tok) (FP.i2d d))), .second, .val (.double (FP.l2d q)), .second, .val (.double (FP.dadd (FP.l2d q) (4602678819172646912 : UInt64))), .second, .val (.double (FP.dadd (FP.l2d q) FP.dconst1)), .second, .unset, .unset]) rfl kk_) ?_
    show OwnG p e below s _ _ _ (T19.setTop (mkF m 155 #[.val (.int x0), .val (.int y0), .val (.int s0), .val (.int rr), .val (.int e0'), .val (.long t0), .second, .val (.int sm), .val (.int d), .val (.long q), .second, .val (.long r), .second, .val (.long tok), .second, .val (.ref ob), .val (.double (FP.ddiv (FP.l2d tok) (FP.i2d d))), .second, .val (.double (FP.l2d q)), .second, .val (.double (FP.dadd (FP.l2d q) (4602678819172646912 : UInt64))), .second, .val (.double (FP.dadd (FP.l2d q) FP.dconst1)), .second, .unset, .unset] []))
    refine own_by (fun t kk_ => XS.dload X19.here hx rfl (hb hby at_155) rfl  kk_) ?_
    show OwnG p e below s _ _ _ (T19.setTop (mkF m 157 #[.val (.int x0), .val (.int y0), .val (.int s0), .val (.int rr), .val (.int e0'), .val (.long t0), .second, .val (.int sm), .val (.int d), .val (.long q), .second, .val (.long r), .second, .val (.long tok), .second, .val (.ref ob), .val (.double (FP.ddiv (FP.l2d tok) (FP.i2d d))), .second, .val (.double (FP.l2d q)), .second, .val (.double (FP.dadd (FP.l2d q) (4602678819172646912 : UInt64))), .second, .val (.double (FP.dadd (FP.l2d q) FP.dconst1)), .second, .unset, .unset] [(.double (FP.ddiv (FP.l2d tok) (FP.i2d d)))]))
    refine own_by (fun t kk_ => XS.dload X19.here hx rfl (hb hby at_157) rfl  kk_) ?_
    show OwnG p e below s _ _ _ (T19.setTop (mkF m 159 #[.val (.int x0), .val (.int y0), .val (.int s0), .val (.int rr), .val (.int e0'), .val (.long t0), .second, .val (.int sm), .val (.int d), .val (.long q), .second, .val (.long r), .second, .val (.long tok), .second, .val (.ref ob), .val (.double (FP.ddiv (FP.l2d tok) (FP.i2d d))), .second, .val (.double (FP.l2d q)), .second, .val (.double (FP.dadd (FP.l2d q) (4602678819172646912 : UInt64))), .second, .val (.double (FP.dadd (FP.l2d q) FP.dconst1)), .second, .unset, .unset] [(.double (FP.l2d q)), (.double (FP.ddiv (FP.l2d tok) (FP.i2d d)))]))
    refine own_by (fun t kk_ => XS.dcmpS X19.here hx rfl (hb hby at_159) rfl rfl kk_) ?_
    show OwnG p e below s _ _ _ (T19.setTop (mkF m 160 #[.val (.int x0), .val (.int y0), .val (.int s0), .val (.int rr), .val (.int e0'), .val (.long t0), .second, .val (.int sm), .val (.int d), .val (.long q), .second, .val (.long r), .second, .val (.long tok), .second, .val (.ref ob), .val (.double (FP.ddiv (FP.l2d tok) (FP.i2d d))), .second, .val (.double (FP.l2d q)), .second, .val (.double (FP.dadd (FP.l2d q) (4602678819172646912 : UInt64))), .second, .val (.double (FP.dadd (FP.l2d q) FP.dconst1)), .second, .unset, .unset] [(.int (cmpValue (FP.dcmp (FP.ddiv (FP.l2d tok) (FP.i2d d)) (FP.l2d q)) .g))]))
    refine own_by (fun t kk_ => XS.ifNo X19.here hx rfl (hb hby at_160) rfl ((if0 _ _).trans (flt (own_lt hva hlo q1 _)).1) kk_) ?_
    show OwnG p e below s _ _ _ (T19.setTop (mkF m 163 #[.val (.int x0), .val (.int y0), .val (.int s0), .val (.int rr), .val (.int e0'), .val (.long t0), .second, .val (.int sm), .val (.int d), .val (.long q), .second, .val (.long r), .second, .val (.long tok), .second, .val (.ref ob), .val (.double (FP.ddiv (FP.l2d tok) (FP.i2d d))), .second, .val (.double (FP.l2d q)), .second, .val (.double (FP.dadd (FP.l2d q) (4602678819172646912 : UInt64))), .second, .val (.double (FP.dadd (FP.l2d q) FP.dconst1)), .second, .unset, .unset] []))
    refine own_by (fun t kk_ => XS.dload X19.here hx rfl (hb hby at_163) rfl  kk_) ?_
    show OwnG p e below s _ _ _ (T19.setTop (mkF m 165 #[.val (.int x0), .val (.int y0), .val (.int s0), .val (.int rr), .val (.int e0'), .val (.long t0), .second, .val (.int sm), .val (.int d), .val (.long q), .second, .val (.long r), .second, .val (.long tok), .second, .val (.ref ob), .val (.double (FP.ddiv (FP.l2d tok) (FP.i2d d))), .second, .val (.double (FP.l2d q)), .second, .val (.double (FP.dadd (FP.l2d q) (4602678819172646912 : UInt64))), .second, .val (.double (FP.dadd (FP.l2d q) FP.dconst1)), .second, .unset, .unset] [(.double (FP.dadd (FP.l2d q) FP.dconst1))]))
    refine own_by (fun t kk_ => XS.dload X19.here hx rfl (hb hby at_165) rfl  kk_) ?_
    show OwnG p e below s _ _ _ (T19.setTop (mkF m 167 #[.val (.int x0), .val (.int y0), .val (.int s0), .val (.int rr), .val (.int e0'), .val (.long t0), .second, .val (.int sm), .val (.int d), .val (.long q), .second, .val (.long r), .second, .val (.long tok), .second, .val (.ref ob), .val (.double (FP.ddiv (FP.l2d tok) (FP.i2d d))), .second, .val (.double (FP.l2d q)), .second, .val (.double (FP.dadd (FP.l2d q) (4602678819172646912 : UInt64))), .second, .val (.double (FP.dadd (FP.l2d q) FP.dconst1)), .second, .unset, .unset] [(.double (FP.ddiv (FP.l2d tok) (FP.i2d d))), (.double (FP.dadd (FP.l2d q) FP.dconst1))]))
    refine own_by (fun t kk_ => XS.dcmpS X19.here hx rfl (hb hby at_167) rfl rfl kk_) ?_
    show OwnG p e below s _ _ _ (T19.setTop (mkF m 168 #[.val (.int x0), .val (.int y0), .val (.int s0), .val (.int rr), .val (.int e0'), .val (.long t0), .second, .val (.int sm), .val (.int d), .val (.long q), .second, .val (.long r), .second, .val (.long tok), .second, .val (.ref ob), .val (.double (FP.ddiv (FP.l2d tok) (FP.i2d d))), .second, .val (.double (FP.l2d q)), .second, .val (.double (FP.dadd (FP.l2d q) (4602678819172646912 : UInt64))), .second, .val (.double (FP.dadd (FP.l2d q) FP.dconst1)), .second, .unset, .unset] [(.int (cmpValue (FP.dcmp (FP.dadd (FP.l2d q) FP.dconst1) (FP.ddiv (FP.l2d tok) (FP.i2d d))) .g))]))
    refine own_by (fun t kk_ => XS.ifYes X19.here hx rfl (pc0 := 168) (pc' := 173) rfl (hb hby at_168) rfl ((if0 _ _).trans (flt (own_lt hhi hva q2 _)).2.1) (by decide) (by decide) kk_) ?_
    show OwnG p e below s _ _ _ (T19.setTop (mkF m 173 #[.val (.int x0), .val (.int y0), .val (.int s0), .val (.int rr), .val (.int e0'), .val (.long t0), .second, .val (.int sm), .val (.int d), .val (.long q), .second, .val (.long r), .second, .val (.long tok), .second, .val (.ref ob), .val (.double (FP.ddiv (FP.l2d tok) (FP.i2d d))), .second, .val (.double (FP.l2d q)), .second, .val (.double (FP.dadd (FP.l2d q) (4602678819172646912 : UInt64))), .second, .val (.double (FP.dadd (FP.l2d q) FP.dconst1)), .second, .unset, .unset] []))
    refine own_by (fun t kk_ => XS.lload X19.here hx rfl (hb hby at_173) rfl  kk_) ?_
    show OwnG p e below s _ _ _ (T19.setTop (mkF m 175 #[.val (.int x0), .val (.int y0), .val (.int s0), .val (.int rr), .val (.int e0'), .val (.long t0), .second, .val (.int sm), .val (.int d), .val (.long q), .second, .val (.long r), .second, .val (.long tok), .second, .val (.ref ob), .val (.double (FP.ddiv (FP.l2d tok) (FP.i2d d))), .second, .val (.double (FP.l2d q)), .second, .val (.double (FP.dadd (FP.l2d q) (4602678819172646912 : UInt64))), .second, .val (.double (FP.dadd (FP.l2d q) FP.dconst1)), .second, .unset, .unset] [(.long r)]))
    refine own_by (fun t kk_ => XS.lconst X19.here hx rfl (hb hby at_175) kk_) ?_
    show OwnG p e below s _ _ _ (T19.setTop (mkF m 176 #[.val (.int x0), .val (.int y0), .val (.int s0), .val (.int rr), .val (.int e0'), .val (.long t0), .second, .val (.int sm), .val (.int d), .val (.long q), .second, .val (.long r), .second, .val (.long tok), .second, .val (.ref ob), .val (.double (FP.ddiv (FP.l2d tok) (FP.i2d d))), .second, .val (.double (FP.l2d q)), .second, .val (.double (FP.dadd (FP.l2d q) (4602678819172646912 : UInt64))), .second, .val (.double (FP.dadd (FP.l2d q) FP.dconst1)), .second, .unset, .unset] [(.long (0 : Int64)), (.long r)]))
    refine own_by (fun t kk_ => XS.lcmp X19.here hx rfl (hb hby at_176) rfl kk_) ?_
    show OwnG p e below s _ _ _ (T19.setTop (mkF m 177 #[.val (.int x0), .val (.int y0), .val (.int s0), .val (.int rr), .val (.int e0'), .val (.long t0), .second, .val (.int sm), .val (.int d), .val (.long q), .second, .val (.long r), .second, .val (.long tok), .second, .val (.ref ob), .val (.double (FP.ddiv (FP.l2d tok) (FP.i2d d))), .second, .val (.double (FP.l2d q)), .second, .val (.double (FP.dadd (FP.l2d q) (4602678819172646912 : UInt64))), .second, .val (.double (FP.dadd (FP.l2d q) FP.dconst1)), .second, .unset, .unset] [(.int (lcmpW r (0 : Int64)))]))
    by_cases hr0 : r = (0 : Int64)
    · refine own_by (fun t kk_ => XS.ifNo X19.here hx rfl (hb hby at_177) rfl ((if0 _ _).trans (teq ((lw_eq _ _).mpr hr0)).2) kk_) ?_
      show OwnG p e below s _ _ _ (T19.setTop (mkF m 180 #[.val (.int x0), .val (.int y0), .val (.int s0), .val (.int rr), .val (.int e0'), .val (.long t0), .second, .val (.int sm), .val (.int d), .val (.long q), .second, .val (.long r), .second, .val (.long tok), .second, .val (.ref ob), .val (.double (FP.ddiv (FP.l2d tok) (FP.i2d d))), .second, .val (.double (FP.l2d q)), .second, .val (.double (FP.dadd (FP.l2d q) (4602678819172646912 : UInt64))), .second, .val (.double (FP.dadd (FP.l2d q) FP.dconst1)), .second, .unset, .unset] []))
      refine own_by (fun t kk_ => XS.dload X19.here hx rfl (hb hby at_180) rfl  kk_) ?_
      show OwnG p e below s _ _ _ (T19.setTop (mkF m 182 #[.val (.int x0), .val (.int y0), .val (.int s0), .val (.int rr), .val (.int e0'), .val (.long t0), .second, .val (.int sm), .val (.int d), .val (.long q), .second, .val (.long r), .second, .val (.long tok), .second, .val (.ref ob), .val (.double (FP.ddiv (FP.l2d tok) (FP.i2d d))), .second, .val (.double (FP.l2d q)), .second, .val (.double (FP.dadd (FP.l2d q) (4602678819172646912 : UInt64))), .second, .val (.double (FP.dadd (FP.l2d q) FP.dconst1)), .second, .unset, .unset] [(.double (FP.ddiv (FP.l2d tok) (FP.i2d d)))]))
      refine own_by (fun t kk_ => XS.dload X19.here hx rfl (hb hby at_182) rfl  kk_) ?_
      show OwnG p e below s _ _ _ (T19.setTop (mkF m 184 #[.val (.int x0), .val (.int y0), .val (.int s0), .val (.int rr), .val (.int e0'), .val (.long t0), .second, .val (.int sm), .val (.int d), .val (.long q), .second, .val (.long r), .second, .val (.long tok), .second, .val (.ref ob), .val (.double (FP.ddiv (FP.l2d tok) (FP.i2d d))), .second, .val (.double (FP.l2d q)), .second, .val (.double (FP.dadd (FP.l2d q) (4602678819172646912 : UInt64))), .second, .val (.double (FP.dadd (FP.l2d q) FP.dconst1)), .second, .unset, .unset] [(.double (FP.l2d q)), (.double (FP.ddiv (FP.l2d tok) (FP.i2d d)))]))
      refine own_by (fun t kk_ => XS.dcmpS X19.here hx rfl (hb hby at_184) rfl rfl kk_) ?_
      show OwnG p e below s _ _ _ (T19.setTop (mkF m 185 #[.val (.int x0), .val (.int y0), .val (.int s0), .val (.int rr), .val (.int e0'), .val (.long t0), .second, .val (.int sm), .val (.int d), .val (.long q), .second, .val (.long r), .second, .val (.long tok), .second, .val (.ref ob), .val (.double (FP.ddiv (FP.l2d tok) (FP.i2d d))), .second, .val (.double (FP.l2d q)), .second, .val (.double (FP.dadd (FP.l2d q) (4602678819172646912 : UInt64))), .second, .val (.double (FP.dadd (FP.l2d q) FP.dconst1)), .second, .unset, .unset] [(.int (cmpValue (FP.dcmp (FP.ddiv (FP.l2d tok) (FP.i2d d)) (FP.l2d q)) .l))]))
      refine own_by (fun t kk_ => XS.ifNo X19.here hx rfl (hb hby at_185) rfl ((if0 _ _).trans (teq (Jvm.OwnFl.own_eq hva hlo (q3 (own_r0 hr0)) _)).2) kk_) ?_
      show OwnG p e below s _ _ _ (T19.setTop (mkF m 188 #[.val (.int x0), .val (.int y0), .val (.int s0), .val (.int rr), .val (.int e0'), .val (.long t0), .second, .val (.int sm), .val (.int d), .val (.long q), .second, .val (.long r), .second, .val (.long tok), .second, .val (.ref ob), .val (.double (FP.ddiv (FP.l2d tok) (FP.i2d d))), .second, .val (.double (FP.l2d q)), .second, .val (.double (FP.dadd (FP.l2d q) (4602678819172646912 : UInt64))), .second, .val (.double (FP.dadd (FP.l2d q) FP.dconst1)), .second, .unset, .unset] []))
      refine own_by (fun t kk_ => XS.iconst X19.here hx rfl (hb hby at_188) kk_) ?_
      show OwnG p e below s _ _ _ (T19.setTop (mkF m 189 #[.val (.int x0), .val (.int y0), .val (.int s0), .val (.int rr), .val (.int e0'), .val (.long t0), .second, .val (.int sm), .val (.int d), .val (.long q), .second, .val (.long r), .second, .val (.long tok), .second, .val (.ref ob), .val (.double (FP.ddiv (FP.l2d tok) (FP.i2d d))), .second, .val (.double (FP.l2d q)), .second, .val (.double (FP.dadd (FP.l2d q) (4602678819172646912 : UInt64))), .second, .val (.double (FP.dadd (FP.l2d q) FP.dconst1)), .second, .unset, .unset] [(.int (1 : Int32))]))
      refine own_by (fun t kk_ => XS.goto X19.here hx rfl (pc0 := 189) (pc' := 193) rfl (hb hby at_189) (by decide) (by decide) kk_) ?_
      show OwnG p e below s _ _ _ (T19.setTop (mkF m 193 #[.val (.int x0), .val (.int y0), .val (.int s0), .val (.int rr), .val (.int e0'), .val (.long t0), .second, .val (.int sm), .val (.int d), .val (.long q), .second, .val (.long r), .second, .val (.long tok), .second, .val (.ref ob), .val (.double (FP.ddiv (FP.l2d tok) (FP.i2d d))), .second, .val (.double (FP.l2d q)), .second, .val (.double (FP.dadd (FP.l2d q) (4602678819172646912 : UInt64))), .second, .val (.double (FP.dadd (FP.l2d q) FP.dconst1)), .second, .unset, .unset] [(.int (1 : Int32))]))
      exact own_outN X19 hx hret (by simp) hlk (hb hby at_193) rfl (⟨rfl, N19⟩) (by decide) (by decide)
    · refine own_by (fun t kk_ => XS.ifYes X19.here hx rfl (pc0 := 177) (pc' := 194) rfl (hb hby at_177) rfl ((if0 _ _).trans (feq (fun q => hr0 ((lw_eq _ _).mp q))).2) (by decide) (by decide) kk_) ?_
      show OwnG p e below s _ _ _ (T19.setTop (mkF m 194 #[.val (.int x0), .val (.int y0), .val (.int s0), .val (.int rr), .val (.int e0'), .val (.long t0), .second, .val (.int sm), .val (.int d), .val (.long q), .second, .val (.long r), .second, .val (.long tok), .second, .val (.ref ob), .val (.double (FP.ddiv (FP.l2d tok) (FP.i2d d))), .second, .val (.double (FP.l2d q)), .second, .val (.double (FP.dadd (FP.l2d q) (4602678819172646912 : UInt64))), .second, .val (.double (FP.dadd (FP.l2d q) FP.dconst1)), .second, .unset, .unset] []))
      refine own_by (fun t kk_ => X19.ldc2Long hx hown (mvT hZ (hw _ (List.mem_of_getElem? (i := 27) rfl))) (g := (mkF m 194 #[.val (.int x0), .val (.int y0), .val (.int s0), .val (.int rr), .val (.int e0'), .val (.long t0), .second, .val (.int sm), .val (.int d), .val (.long q), .second, .val (.long r), .second, .val (.long tok), .second, .val (.ref ob), .val (.double (FP.ddiv (FP.l2d tok) (FP.i2d d))), .second, .val (.double (FP.l2d q)), .second, .val (.double (FP.dadd (FP.l2d q) (4602678819172646912 : UInt64))), .second, .val (.double (FP.dadd (FP.l2d q) FP.dconst1)), .second, .unset, .unset] [])) rfl (hb hby at_194) _ kk_) ?_
      show OwnG p e below s _ _ _ (T19.setTop (mkF m 197 #[.val (.int x0), .val (.int y0), .val (.int s0), .val (.int rr), .val (.int e0'), .val (.long t0), .second, .val (.int sm), .val (.int d), .val (.long q), .second, .val (.long r), .second, .val (.long tok), .second, .val (.ref ob), .val (.double (FP.ddiv (FP.l2d tok) (FP.i2d d))), .second, .val (.double (FP.l2d q)), .second, .val (.double (FP.dadd (FP.l2d q) (4602678819172646912 : UInt64))), .second, .val (.double (FP.dadd (FP.l2d q) FP.dconst1)), .second, .unset, .unset] [(.long (2 : Int64))]))
      refine own_by (fun t kk_ => XS.lload X19.here hx rfl (hb hby at_197) rfl  kk_) ?_
      show OwnG p e below s _ _ _ (T19.setTop (mkF m 199 #[.val (.int x0), .val (.int y0), .val (.int s0), .val (.int rr), .val (.int e0'), .val (.long t0), .second, .val (.int sm), .val (.int d), .val (.long q), .second, .val (.long r), .second, .val (.long tok), .second, .val (.ref ob), .val (.double (FP.ddiv (FP.l2d tok) (FP.i2d d))), .second, .val (.double (FP.l2d q)), .second, .val (.double (FP.dadd (FP.l2d q) (4602678819172646912 : UInt64))), .second, .val (.double (FP.dadd (FP.l2d q) FP.dconst1)), .second, .unset, .unset] [(.long r), (.long (2 : Int64))]))
      refine own_by (fun t kk_ => XS.lmul X19.here hx rfl (hb hby at_199) rfl kk_) ?_
      show OwnG p e below s _ _ _ (T19.setTop (mkF m 200 #[.val (.int x0), .val (.int y0), .val (.int s0), .val (.int rr), .val (.int e0'), .val (.long t0), .second, .val (.int sm), .val (.int d), .val (.long q), .second, .val (.long r), .second, .val (.long tok), .second, .val (.ref ob), .val (.double (FP.ddiv (FP.l2d tok) (FP.i2d d))), .second, .val (.double (FP.l2d q)), .second, .val (.double (FP.dadd (FP.l2d q) (4602678819172646912 : UInt64))), .second, .val (.double (FP.dadd (FP.l2d q) FP.dconst1)), .second, .unset, .unset] [(.long ((2 : Int64) * r))]))
      have h2r := own_two hr.1 hr.2
      generalize (2 : Int64) * r = tw at h2r ⊢
      show OwnG p e below s _ _ _ (T19.setTop (mkF m 200 #[.val (.int x0), .val (.int y0), .val (.int s0), .val (.int rr), .val (.int e0'), .val (.long t0), .second, .val (.int sm), .val (.int d), .val (.long q), .second, .val (.long r), .second, .val (.long tok), .second, .val (.ref ob), .val (.double (FP.ddiv (FP.l2d tok) (FP.i2d d))), .second, .val (.double (FP.l2d q)), .second, .val (.double (FP.dadd (FP.l2d q) (4602678819172646912 : UInt64))), .second, .val (.double (FP.dadd (FP.l2d q) FP.dconst1)), .second, .unset, .unset] [(.long tw)]))
      refine own_by (fun t kk_ => XS.lstore X19.here hx rfl (hb hby at_200) rfl (l' := #[.val (.int x0), .val (.int y0), .val (.int s0), .val (.int rr), .val (.int e0'), .val (.long t0), .second, .val (.int sm), .val (.int d), .val (.long q), .second, .val (.long r), .second, .val (.long tok), .second, .val (.ref ob), .val (.double (FP.ddiv (FP.l2d tok) (FP.i2d d))), .second, .val (.double (FP.l2d q)), .second, .val (.double (FP.dadd (FP.l2d q) (4602678819172646912 : UInt64))), .second, .val (.double (FP.dadd (FP.l2d q) FP.dconst1)), .second, .val (.long tw), .second]) rfl kk_) ?_
      show OwnG p e below s _ _ _ (T19.setTop (mkF m 202 #[.val (.int x0), .val (.int y0), .val (.int s0), .val (.int rr), .val (.int e0'), .val (.long t0), .second, .val (.int sm), .val (.int d), .val (.long q), .second, .val (.long r), .second, .val (.long tok), .second, .val (.ref ob), .val (.double (FP.ddiv (FP.l2d tok) (FP.i2d d))), .second, .val (.double (FP.l2d q)), .second, .val (.double (FP.dadd (FP.l2d q) (4602678819172646912 : UInt64))), .second, .val (.double (FP.dadd (FP.l2d q) FP.dconst1)), .second, .val (.long tw), .second] []))
      refine own_by (fun t kk_ => XS.lload X19.here hx rfl (hb hby at_202) rfl  kk_) ?_
      show OwnG p e below s _ _ _ (T19.setTop (mkF m 204 #[.val (.int x0), .val (.int y0), .val (.int s0), .val (.int rr), .val (.int e0'), .val (.long t0), .second, .val (.int sm), .val (.int d), .val (.long q), .second, .val (.long r), .second, .val (.long tok), .second, .val (.ref ob), .val (.double (FP.ddiv (FP.l2d tok) (FP.i2d d))), .second, .val (.double (FP.l2d q)), .second, .val (.double (FP.dadd (FP.l2d q) (4602678819172646912 : UInt64))), .second, .val (.double (FP.dadd (FP.l2d q) FP.dconst1)), .second, .val (.long tw), .second] [(.long tw)]))
      refine own_by (fun t kk_ => XS.iload X19.here hx rfl (hb hby at_204) rfl  kk_) ?_
      show OwnG p e below s _ _ _ (T19.setTop (mkF m 206 #[.val (.int x0), .val (.int y0), .val (.int s0), .val (.int rr), .val (.int e0'), .val (.long t0), .second, .val (.int sm), .val (.int d), .val (.long q), .second, .val (.long r), .second, .val (.long tok), .second, .val (.ref ob), .val (.double (FP.ddiv (FP.l2d tok) (FP.i2d d))), .second, .val (.double (FP.l2d q)), .second, .val (.double (FP.dadd (FP.l2d q) (4602678819172646912 : UInt64))), .second, .val (.double (FP.dadd (FP.l2d q) FP.dconst1)), .second, .val (.long tw), .second] [(.int d), (.long tw)]))
      refine own_by (fun t kk_ => XS.i2l X19.here hx rfl (hb hby at_206) rfl kk_) ?_
      show OwnG p e below s _ _ _ (T19.setTop (mkF m 207 #[.val (.int x0), .val (.int y0), .val (.int s0), .val (.int rr), .val (.int e0'), .val (.long t0), .second, .val (.int sm), .val (.int d), .val (.long q), .second, .val (.long r), .second, .val (.long tok), .second, .val (.ref ob), .val (.double (FP.ddiv (FP.l2d tok) (FP.i2d d))), .second, .val (.double (FP.l2d q)), .second, .val (.double (FP.dadd (FP.l2d q) (4602678819172646912 : UInt64))), .second, .val (.double (FP.dadd (FP.l2d q) FP.dconst1)), .second, .val (.long tw), .second] [(.long (d.toInt64)), (.long tw)]))
      refine own_by (fun t kk_ => XS.lcmp X19.here hx rfl (hb hby at_207) rfl kk_) ?_
      show OwnG p e below s _ _ _ (T19.setTop (mkF m 208 #[.val (.int x0), .val (.int y0), .val (.int s0), .val (.int rr), .val (.int e0'), .val (.long t0), .second, .val (.int sm), .val (.int d), .val (.long q), .second, .val (.long r), .second, .val (.long tok), .second, .val (.ref ob), .val (.double (FP.ddiv (FP.l2d tok) (FP.i2d d))), .second, .val (.double (FP.l2d q)), .second, .val (.double (FP.dadd (FP.l2d q) (4602678819172646912 : UInt64))), .second, .val (.double (FP.dadd (FP.l2d q) FP.dconst1)), .second, .val (.long tw), .second] [(.int (lcmpW tw (d.toInt64)))]))
      by_cases h208 : tw < (d.toInt64)
      · refine own_by (fun t kk_ => XS.ifNo X19.here hx rfl (hb hby at_208) rfl ((if0 _ _).trans (tlt ((lw_lt _ _).mpr h208)).2.1) kk_) ?_
        show OwnG p e below s _ _ _ (T19.setTop (mkF m 211 #[.val (.int x0), .val (.int y0), .val (.int s0), .val (.int rr), .val (.int e0'), .val (.long t0), .second, .val (.int sm), .val (.int d), .val (.long q), .second, .val (.long r), .second, .val (.long tok), .second, .val (.ref ob), .val (.double (FP.ddiv (FP.l2d tok) (FP.i2d d))), .second, .val (.double (FP.l2d q)), .second, .val (.double (FP.dadd (FP.l2d q) (4602678819172646912 : UInt64))), .second, .val (.double (FP.dadd (FP.l2d q) FP.dconst1)), .second, .val (.long tw), .second] []))
        refine own_by (fun t kk_ => XS.dload X19.here hx rfl (hb hby at_211) rfl  kk_) ?_
        show OwnG p e below s _ _ _ (T19.setTop (mkF m 213 #[.val (.int x0), .val (.int y0), .val (.int s0), .val (.int rr), .val (.int e0'), .val (.long t0), .second, .val (.int sm), .val (.int d), .val (.long q), .second, .val (.long r), .second, .val (.long tok), .second, .val (.ref ob), .val (.double (FP.ddiv (FP.l2d tok) (FP.i2d d))), .second, .val (.double (FP.l2d q)), .second, .val (.double (FP.dadd (FP.l2d q) (4602678819172646912 : UInt64))), .second, .val (.double (FP.dadd (FP.l2d q) FP.dconst1)), .second, .val (.long tw), .second] [(.double (FP.ddiv (FP.l2d tok) (FP.i2d d)))]))
        refine own_by (fun t kk_ => XS.dload X19.here hx rfl (hb hby at_213) rfl  kk_) ?_
        show OwnG p e below s _ _ _ (T19.setTop (mkF m 215 #[.val (.int x0), .val (.int y0), .val (.int s0), .val (.int rr), .val (.int e0'), .val (.long t0), .second, .val (.int sm), .val (.int d), .val (.long q), .second, .val (.long r), .second, .val (.long tok), .second, .val (.ref ob), .val (.double (FP.ddiv (FP.l2d tok) (FP.i2d d))), .second, .val (.double (FP.l2d q)), .second, .val (.double (FP.dadd (FP.l2d q) (4602678819172646912 : UInt64))), .second, .val (.double (FP.dadd (FP.l2d q) FP.dconst1)), .second, .val (.long tw), .second] [(.double (FP.dadd (FP.l2d q) (4602678819172646912 : UInt64))), (.double (FP.ddiv (FP.l2d tok) (FP.i2d d)))]))
        refine own_by (fun t kk_ => XS.dcmpS X19.here hx rfl (hb hby at_215) rfl rfl kk_) ?_
        show OwnG p e below s _ _ _ (T19.setTop (mkF m 216 #[.val (.int x0), .val (.int y0), .val (.int s0), .val (.int rr), .val (.int e0'), .val (.long t0), .second, .val (.int sm), .val (.int d), .val (.long q), .second, .val (.long r), .second, .val (.long tok), .second, .val (.ref ob), .val (.double (FP.ddiv (FP.l2d tok) (FP.i2d d))), .second, .val (.double (FP.l2d q)), .second, .val (.double (FP.dadd (FP.l2d q) (4602678819172646912 : UInt64))), .second, .val (.double (FP.dadd (FP.l2d q) FP.dconst1)), .second, .val (.long tw), .second] [(.int (cmpValue (FP.dcmp (FP.ddiv (FP.l2d tok) (FP.i2d d)) (FP.dadd (FP.l2d q) (4602678819172646912 : UInt64))) .g))]))
        refine own_by (fun t kk_ => XS.ifNo X19.here hx rfl (hb hby at_216) rfl ((if0 _ _).trans (flt (own_gt hva hmid (q4 ((own_lt2 h2r).mp h208)) _)).2.2.1) kk_) ?_
        show OwnG p e below s _ _ _ (T19.setTop (mkF m 219 #[.val (.int x0), .val (.int y0), .val (.int s0), .val (.int rr), .val (.int e0'), .val (.long t0), .second, .val (.int sm), .val (.int d), .val (.long q), .second, .val (.long r), .second, .val (.long tok), .second, .val (.ref ob), .val (.double (FP.ddiv (FP.l2d tok) (FP.i2d d))), .second, .val (.double (FP.l2d q)), .second, .val (.double (FP.dadd (FP.l2d q) (4602678819172646912 : UInt64))), .second, .val (.double (FP.dadd (FP.l2d q) FP.dconst1)), .second, .val (.long tw), .second] []))
        refine own_by (fun t kk_ => XS.iconst X19.here hx rfl (hb hby at_219) kk_) ?_
        show OwnG p e below s _ _ _ (T19.setTop (mkF m 220 #[.val (.int x0), .val (.int y0), .val (.int s0), .val (.int rr), .val (.int e0'), .val (.long t0), .second, .val (.int sm), .val (.int d), .val (.long q), .second, .val (.long r), .second, .val (.long tok), .second, .val (.ref ob), .val (.double (FP.ddiv (FP.l2d tok) (FP.i2d d))), .second, .val (.double (FP.l2d q)), .second, .val (.double (FP.dadd (FP.l2d q) (4602678819172646912 : UInt64))), .second, .val (.double (FP.dadd (FP.l2d q) FP.dconst1)), .second, .val (.long tw), .second] [(.int (1 : Int32))]))
        refine own_by (fun t kk_ => XS.goto X19.here hx rfl (pc0 := 220) (pc' := 224) rfl (hb hby at_220) (by decide) (by decide) kk_) ?_
        show OwnG p e below s _ _ _ (T19.setTop (mkF m 224 #[.val (.int x0), .val (.int y0), .val (.int s0), .val (.int rr), .val (.int e0'), .val (.long t0), .second, .val (.int sm), .val (.int d), .val (.long q), .second, .val (.long r), .second, .val (.long tok), .second, .val (.ref ob), .val (.double (FP.ddiv (FP.l2d tok) (FP.i2d d))), .second, .val (.double (FP.l2d q)), .second, .val (.double (FP.dadd (FP.l2d q) (4602678819172646912 : UInt64))), .second, .val (.double (FP.dadd (FP.l2d q) FP.dconst1)), .second, .val (.long tw), .second] [(.int (1 : Int32))]))
        exact own_outN X19 hx hret (by simp) hlk (hb hby at_224) rfl (⟨rfl, N19⟩) (by decide) (by decide)
      · refine own_by (fun t kk_ => XS.ifYes X19.here hx rfl (pc0 := 208) (pc' := 225) rfl (hb hby at_208) rfl ((if0 _ _).trans (flt (fun q => h208 ((lw_lt _ _).mp q))).2.1) (by decide) (by decide) kk_) ?_
        show OwnG p e below s _ _ _ (T19.setTop (mkF m 225 #[.val (.int x0), .val (.int y0), .val (.int s0), .val (.int rr), .val (.int e0'), .val (.long t0), .second, .val (.int sm), .val (.int d), .val (.long q), .second, .val (.long r), .second, .val (.long tok), .second, .val (.ref ob), .val (.double (FP.ddiv (FP.l2d tok) (FP.i2d d))), .second, .val (.double (FP.l2d q)), .second, .val (.double (FP.dadd (FP.l2d q) (4602678819172646912 : UInt64))), .second, .val (.double (FP.dadd (FP.l2d q) FP.dconst1)), .second, .val (.long tw), .second] []))
        refine own_by (fun t kk_ => XS.lload X19.here hx rfl (hb hby at_225) rfl  kk_) ?_
        show OwnG p e below s _ _ _ (T19.setTop (mkF m 227 #[.val (.int x0), .val (.int y0), .val (.int s0), .val (.int rr), .val (.int e0'), .val (.long t0), .second, .val (.int sm), .val (.int d), .val (.long q), .second, .val (.long r), .second, .val (.long tok), .second, .val (.ref ob), .val (.double (FP.ddiv (FP.l2d tok) (FP.i2d d))), .second, .val (.double (FP.l2d q)), .second, .val (.double (FP.dadd (FP.l2d q) (4602678819172646912 : UInt64))), .second, .val (.double (FP.dadd (FP.l2d q) FP.dconst1)), .second, .val (.long tw), .second] [(.long tw)]))
        refine own_by (fun t kk_ => XS.iload X19.here hx rfl (hb hby at_227) rfl  kk_) ?_
        show OwnG p e below s _ _ _ (T19.setTop (mkF m 229 #[.val (.int x0), .val (.int y0), .val (.int s0), .val (.int rr), .val (.int e0'), .val (.long t0), .second, .val (.int sm), .val (.int d), .val (.long q), .second, .val (.long r), .second, .val (.long tok), .second, .val (.ref ob), .val (.double (FP.ddiv (FP.l2d tok) (FP.i2d d))), .second, .val (.double (FP.l2d q)), .second, .val (.double (FP.dadd (FP.l2d q) (4602678819172646912 : UInt64))), .second, .val (.double (FP.dadd (FP.l2d q) FP.dconst1)), .second, .val (.long tw), .second] [(.int d), (.long tw)]))
        refine own_by (fun t kk_ => XS.i2l X19.here hx rfl (hb hby at_229) rfl kk_) ?_
        show OwnG p e below s _ _ _ (T19.setTop (mkF m 230 #[.val (.int x0), .val (.int y0), .val (.int s0), .val (.int rr), .val (.int e0'), .val (.long t0), .second, .val (.int sm), .val (.int d), .val (.long q), .second, .val (.long r), .second, .val (.long tok), .second, .val (.ref ob), .val (.double (FP.ddiv (FP.l2d tok) (FP.i2d d))), .second, .val (.double (FP.l2d q)), .second, .val (.double (FP.dadd (FP.l2d q) (4602678819172646912 : UInt64))), .second, .val (.double (FP.dadd (FP.l2d q) FP.dconst1)), .second, .val (.long tw), .second] [(.long (d.toInt64)), (.long tw)]))
        refine own_by (fun t kk_ => XS.lcmp X19.here hx rfl (hb hby at_230) rfl kk_) ?_
        show OwnG p e below s _ _ _ (T19.setTop (mkF m 231 #[.val (.int x0), .val (.int y0), .val (.int s0), .val (.int rr), .val (.int e0'), .val (.long t0), .second, .val (.int sm), .val (.int d), .val (.long q), .second, .val (.long r), .second, .val (.long tok), .second, .val (.ref ob), .val (.double (FP.ddiv (FP.l2d tok) (FP.i2d d))), .second, .val (.double (FP.l2d q)), .second, .val (.double (FP.dadd (FP.l2d q) (4602678819172646912 : UInt64))), .second, .val (.double (FP.dadd (FP.l2d q) FP.dconst1)), .second, .val (.long tw), .second] [(.int (lcmpW tw (d.toInt64)))]))
        by_cases h231 : (d.toInt64) < tw
        · refine own_by (fun t kk_ => XS.ifNo X19.here hx rfl (hb hby at_231) rfl ((if0 _ _).trans (tlt ((lw_gt _ _).mpr h231)).2.2.2) kk_) ?_
          show OwnG p e below s _ _ _ (T19.setTop (mkF m 234 #[.val (.int x0), .val (.int y0), .val (.int s0), .val (.int rr), .val (.int e0'), .val (.long t0), .second, .val (.int sm), .val (.int d), .val (.long q), .second, .val (.long r), .second, .val (.long tok), .second, .val (.ref ob), .val (.double (FP.ddiv (FP.l2d tok) (FP.i2d d))), .second, .val (.double (FP.l2d q)), .second, .val (.double (FP.dadd (FP.l2d q) (4602678819172646912 : UInt64))), .second, .val (.double (FP.dadd (FP.l2d q) FP.dconst1)), .second, .val (.long tw), .second] []))
          refine own_by (fun t kk_ => XS.dload X19.here hx rfl (hb hby at_234) rfl  kk_) ?_
          show OwnG p e below s _ _ _ (T19.setTop (mkF m 236 #[.val (.int x0), .val (.int y0), .val (.int s0), .val (.int rr), .val (.int e0'), .val (.long t0), .second, .val (.int sm), .val (.int d), .val (.long q), .second, .val (.long r), .second, .val (.long tok), .second, .val (.ref ob), .val (.double (FP.ddiv (FP.l2d tok) (FP.i2d d))), .second, .val (.double (FP.l2d q)), .second, .val (.double (FP.dadd (FP.l2d q) (4602678819172646912 : UInt64))), .second, .val (.double (FP.dadd (FP.l2d q) FP.dconst1)), .second, .val (.long tw), .second] [(.double (FP.dadd (FP.l2d q) (4602678819172646912 : UInt64)))]))
          refine own_by (fun t kk_ => XS.dload X19.here hx rfl (hb hby at_236) rfl  kk_) ?_
          show OwnG p e below s _ _ _ (T19.setTop (mkF m 238 #[.val (.int x0), .val (.int y0), .val (.int s0), .val (.int rr), .val (.int e0'), .val (.long t0), .second, .val (.int sm), .val (.int d), .val (.long q), .second, .val (.long r), .second, .val (.long tok), .second, .val (.ref ob), .val (.double (FP.ddiv (FP.l2d tok) (FP.i2d d))), .second, .val (.double (FP.l2d q)), .second, .val (.double (FP.dadd (FP.l2d q) (4602678819172646912 : UInt64))), .second, .val (.double (FP.dadd (FP.l2d q) FP.dconst1)), .second, .val (.long tw), .second] [(.double (FP.ddiv (FP.l2d tok) (FP.i2d d))), (.double (FP.dadd (FP.l2d q) (4602678819172646912 : UInt64)))]))
          refine own_by (fun t kk_ => XS.dcmpS X19.here hx rfl (hb hby at_238) rfl rfl kk_) ?_
          show OwnG p e below s _ _ _ (T19.setTop (mkF m 239 #[.val (.int x0), .val (.int y0), .val (.int s0), .val (.int rr), .val (.int e0'), .val (.long t0), .second, .val (.int sm), .val (.int d), .val (.long q), .second, .val (.long r), .second, .val (.long tok), .second, .val (.ref ob), .val (.double (FP.ddiv (FP.l2d tok) (FP.i2d d))), .second, .val (.double (FP.l2d q)), .second, .val (.double (FP.dadd (FP.l2d q) (4602678819172646912 : UInt64))), .second, .val (.double (FP.dadd (FP.l2d q) FP.dconst1)), .second, .val (.long tw), .second] [(.int (cmpValue (FP.dcmp (FP.dadd (FP.l2d q) (4602678819172646912 : UInt64)) (FP.ddiv (FP.l2d tok) (FP.i2d d))) .g))]))
          refine own_by (fun t kk_ => XS.ifNo X19.here hx rfl (hb hby at_239) rfl ((if0 _ _).trans (flt (own_gt hmid hva (q5 ((own_gt2 h2r).mp h231)) _)).2.2.1) kk_) ?_
          show OwnG p e below s _ _ _ (T19.setTop (mkF m 242 #[.val (.int x0), .val (.int y0), .val (.int s0), .val (.int rr), .val (.int e0'), .val (.long t0), .second, .val (.int sm), .val (.int d), .val (.long q), .second, .val (.long r), .second, .val (.long tok), .second, .val (.ref ob), .val (.double (FP.ddiv (FP.l2d tok) (FP.i2d d))), .second, .val (.double (FP.l2d q)), .second, .val (.double (FP.dadd (FP.l2d q) (4602678819172646912 : UInt64))), .second, .val (.double (FP.dadd (FP.l2d q) FP.dconst1)), .second, .val (.long tw), .second] []))
          refine own_by (fun t kk_ => XS.iconst X19.here hx rfl (hb hby at_242) kk_) ?_
          show OwnG p e below s _ _ _ (T19.setTop (mkF m 243 #[.val (.int x0), .val (.int y0), .val (.int s0), .val (.int rr), .val (.int e0'), .val (.long t0), .second, .val (.int sm), .val (.int d), .val (.long q), .second, .val (.long r), .second, .val (.long tok), .second, .val (.ref ob), .val (.double (FP.ddiv (FP.l2d tok) (FP.i2d d))), .second, .val (.double (FP.l2d q)), .second, .val (.double (FP.dadd (FP.l2d q) (4602678819172646912 : UInt64))), .second, .val (.double (FP.dadd (FP.l2d q) FP.dconst1)), .second, .val (.long tw), .second] [(.int (1 : Int32))]))
          refine own_by (fun t kk_ => XS.goto X19.here hx rfl (pc0 := 243) (pc' := 247) rfl (hb hby at_243) (by decide) (by decide) kk_) ?_
          show OwnG p e below s _ _ _ (T19.setTop (mkF m 247 #[.val (.int x0), .val (.int y0), .val (.int s0), .val (.int rr), .val (.int e0'), .val (.long t0), .second, .val (.int sm), .val (.int d), .val (.long q), .second, .val (.long r), .second, .val (.long tok), .second, .val (.ref ob), .val (.double (FP.ddiv (FP.l2d tok) (FP.i2d d))), .second, .val (.double (FP.l2d q)), .second, .val (.double (FP.dadd (FP.l2d q) (4602678819172646912 : UInt64))), .second, .val (.double (FP.dadd (FP.l2d q) FP.dconst1)), .second, .val (.long tw), .second] [(.int (1 : Int32))]))
          exact own_outN X19 hx hret (by simp) hlk (hb hby at_247) rfl (⟨rfl, N19⟩) (by decide) (by decide)
        · refine own_by (fun t kk_ => XS.ifYes X19.here hx rfl (pc0 := 231) (pc' := 248) rfl (hb hby at_231) rfl ((if0 _ _).trans (flt (fun q => h231 ((lw_gt _ _).mp q))).2.2.2) (by decide) (by decide) kk_) ?_
          show OwnG p e below s _ _ _ (T19.setTop (mkF m 248 #[.val (.int x0), .val (.int y0), .val (.int s0), .val (.int rr), .val (.int e0'), .val (.long t0), .second, .val (.int sm), .val (.int d), .val (.long q), .second, .val (.long r), .second, .val (.long tok), .second, .val (.ref ob), .val (.double (FP.ddiv (FP.l2d tok) (FP.i2d d))), .second, .val (.double (FP.l2d q)), .second, .val (.double (FP.dadd (FP.l2d q) (4602678819172646912 : UInt64))), .second, .val (.double (FP.dadd (FP.l2d q) FP.dconst1)), .second, .val (.long tw), .second] []))
          refine own_by (fun t kk_ => XS.dload X19.here hx rfl (hb hby at_248) rfl  kk_) ?_
          show OwnG p e below s _ _ _ (T19.setTop (mkF m 250 #[.val (.int x0), .val (.int y0), .val (.int s0), .val (.int rr), .val (.int e0'), .val (.long t0), .second, .val (.int sm), .val (.int d), .val (.long q), .second, .val (.long r), .second, .val (.long tok), .second, .val (.ref ob), .val (.double (FP.ddiv (FP.l2d tok) (FP.i2d d))), .second, .val (.double (FP.l2d q)), .second, .val (.double (FP.dadd (FP.l2d q) (4602678819172646912 : UInt64))), .second, .val (.double (FP.dadd (FP.l2d q) FP.dconst1)), .second, .val (.long tw), .second] [(.double (FP.ddiv (FP.l2d tok) (FP.i2d d)))]))
          refine own_by (fun t kk_ => XS.dload X19.here hx rfl (hb hby at_250) rfl  kk_) ?_
          show OwnG p e below s _ _ _ (T19.setTop (mkF m 252 #[.val (.int x0), .val (.int y0), .val (.int s0), .val (.int rr), .val (.int e0'), .val (.long t0), .second, .val (.int sm), .val (.int d), .val (.long q), .second, .val (.long r), .second, .val (.long tok), .second, .val (.ref ob), .val (.double (FP.ddiv (FP.l2d tok) (FP.i2d d))), .second, .val (.double (FP.l2d q)), .second, .val (.double (FP.dadd (FP.l2d q) (4602678819172646912 : UInt64))), .second, .val (.double (FP.dadd (FP.l2d q) FP.dconst1)), .second, .val (.long tw), .second] [(.double (FP.dadd (FP.l2d q) (4602678819172646912 : UInt64))), (.double (FP.ddiv (FP.l2d tok) (FP.i2d d)))]))
          refine own_by (fun t kk_ => XS.dcmpS X19.here hx rfl (hb hby at_252) rfl rfl kk_) ?_
          show OwnG p e below s _ _ _ (T19.setTop (mkF m 253 #[.val (.int x0), .val (.int y0), .val (.int s0), .val (.int rr), .val (.int e0'), .val (.long t0), .second, .val (.int sm), .val (.int d), .val (.long q), .second, .val (.long r), .second, .val (.long tok), .second, .val (.ref ob), .val (.double (FP.ddiv (FP.l2d tok) (FP.i2d d))), .second, .val (.double (FP.l2d q)), .second, .val (.double (FP.dadd (FP.l2d q) (4602678819172646912 : UInt64))), .second, .val (.double (FP.dadd (FP.l2d q) FP.dconst1)), .second, .val (.long tw), .second] [(.int (cmpValue (FP.dcmp (FP.ddiv (FP.l2d tok) (FP.i2d d)) (FP.dadd (FP.l2d q) (4602678819172646912 : UInt64))) .l))]))
          refine own_by (fun t kk_ => XS.ifNo X19.here hx rfl (hb hby at_253) rfl ((if0 _ _).trans (teq (Jvm.OwnFl.own_eq hva hmid (q6 (by have a : ¬ 2 * r.toInt < d.toInt := fun z => h208 ((own_lt2 h2r).mpr z); have b : ¬ d.toInt < 2 * r.toInt := fun z => h231 ((own_gt2 h2r).mpr z); omega)) _)).2) kk_) ?_
          show OwnG p e below s _ _ _ (T19.setTop (mkF m 256 #[.val (.int x0), .val (.int y0), .val (.int s0), .val (.int rr), .val (.int e0'), .val (.long t0), .second, .val (.int sm), .val (.int d), .val (.long q), .second, .val (.long r), .second, .val (.long tok), .second, .val (.ref ob), .val (.double (FP.ddiv (FP.l2d tok) (FP.i2d d))), .second, .val (.double (FP.l2d q)), .second, .val (.double (FP.dadd (FP.l2d q) (4602678819172646912 : UInt64))), .second, .val (.double (FP.dadd (FP.l2d q) FP.dconst1)), .second, .val (.long tw), .second] []))
          refine own_by (fun t kk_ => XS.iconst X19.here hx rfl (hb hby at_256) kk_) ?_
          show OwnG p e below s _ _ _ (T19.setTop (mkF m 257 #[.val (.int x0), .val (.int y0), .val (.int s0), .val (.int rr), .val (.int e0'), .val (.long t0), .second, .val (.int sm), .val (.int d), .val (.long q), .second, .val (.long r), .second, .val (.long tok), .second, .val (.ref ob), .val (.double (FP.ddiv (FP.l2d tok) (FP.i2d d))), .second, .val (.double (FP.l2d q)), .second, .val (.double (FP.dadd (FP.l2d q) (4602678819172646912 : UInt64))), .second, .val (.double (FP.dadd (FP.l2d q) FP.dconst1)), .second, .val (.long tw), .second] [(.int (1 : Int32))]))
          refine own_by (fun t kk_ => XS.goto X19.here hx rfl (pc0 := 257) (pc' := 261) rfl (hb hby at_257) (by decide) (by decide) kk_) ?_
          show OwnG p e below s _ _ _ (T19.setTop (mkF m 261 #[.val (.int x0), .val (.int y0), .val (.int s0), .val (.int rr), .val (.int e0'), .val (.long t0), .second, .val (.int sm), .val (.int d), .val (.long q), .second, .val (.long r), .second, .val (.long tok), .second, .val (.ref ob), .val (.double (FP.ddiv (FP.l2d tok) (FP.i2d d))), .second, .val (.double (FP.l2d q)), .second, .val (.double (FP.dadd (FP.l2d q) (4602678819172646912 : UInt64))), .second, .val (.double (FP.dadd (FP.l2d q) FP.dconst1)), .second, .val (.long tw), .second] [(.int (1 : Int32))]))
          exact own_outN X19 hx hret (by simp) hlk (hb hby at_261) rfl (⟨rfl, N19⟩) (by decide) (by decide)
theorem ef_0 (m : MethodId) (x0 : Int32) (x1 : Int32) (x2 : Int32) (x3 : Int32) (x4 : Int32) (x5 : Int64) : entryFrame m #[(.int x0), (.int x1), (.int x2), (.int x3), (.int x4), (.long x5)] maxLocals = mkF m 0 #[.val (.int x0), .val (.int x1), .val (.int x2), .val (.int x3), .val (.int x4), .val (.long x5), .second, .unset, .unset, .unset, .unset, .unset, .unset, .unset, .unset, .unset, .unset, .unset, .unset, .unset, .unset, .unset, .unset, .unset, .unset, .unset] [] := by first | (simp [entryFrame, mkF, argsToLocals, Value.category, maxLocals]; done) | rfl
def Q0 (Z : State) (x0 y0 s0 rr e0' : Int32) (t0 : Int64) (h0 : Heap) (n0 : Nat) (v : Option Value) (h : Heap) (L : List Loc) : Prop := v = some (.int (1 : Int32)) ∧ Fr n0 L
set_option maxRecDepth 65536 in
set_option maxHeartbeats 40000000 in
theorem rm0 (l : Launch) (Z : State) (a0 : Array Value) (hw : ∀ d ∈ tables_1, d.before a0 Z = true) (ws : List Jvm.Cond) (x0 y0 s0 rr e0' : Int32) (t0 : Int64) (h0 : Heap) (n0 : Nat) (Z0 : n0 ≤ h0.size) :
    MetFree l x (head1 (Jvm.Cond.code x code maxLocals ret :: ws) room_1) (fun aa_ U => aa_ = #[(.int x0), (.int y0), (.int s0), (.int rr), (.int e0'), (.long t0)] ∧ Z.Warmed39 U.vm ∧ U.heap = h0) (fun _ _ _ _ _ => True) (fun _ U o U' => ∃ v L, o = .returned v ∧ Q0 Z x0 y0 s0 rr e0' t0 h0 n0 v U'.heap L ∧ FrameEnd U o U' L room_1.cells room_1.slots) := by
  refine own_met (Q := fun v h L => Q0 Z x0 y0 s0 rr e0' t0 h0 n0 v h L) (plainFor_of_name pn_1) ?_
  intro p e s m below meth c s₁ hx hby hml hret hlk hown hnm hZ X0 e0
  have N0 := Fr.nil n0
  rw [ef_0 m x0 y0 s0 rr e0' t0]
  show OwnG p e below s _ _ _ (s₁.setTop (mkF m 0 #[.val (.int x0), .val (.int y0), .val (.int s0), .val (.int rr), .val (.int e0'), .val (.long t0), .second, .unset, .unset, .unset, .unset, .unset, .unset, .unset, .unset, .unset, .unset, .unset, .unset, .unset, .unset, .unset, .unset, .unset, .unset, .unset] []))
  refine own_by (fun t kk_ => XS.iloadN X0.here hx rfl (hb hby at_0) rfl  kk_) ?_
  show OwnG p e below s _ _ _ (s₁.setTop (mkF m 1 #[.val (.int x0), .val (.int y0), .val (.int s0), .val (.int rr), .val (.int e0'), .val (.long t0), .second, .unset, .unset, .unset, .unset, .unset, .unset, .unset, .unset, .unset, .unset, .unset, .unset, .unset, .unset, .unset, .unset, .unset, .unset, .unset] [(.int s0)]))
  refine own_by (fun t kk_ => XS.iconst X0.here hx rfl (hb hby at_1) kk_) ?_
  show OwnG p e below s _ _ _ (s₁.setTop (mkF m 2 #[.val (.int x0), .val (.int y0), .val (.int s0), .val (.int rr), .val (.int e0'), .val (.long t0), .second, .unset, .unset, .unset, .unset, .unset, .unset, .unset, .unset, .unset, .unset, .unset, .unset, .unset, .unset, .unset, .unset, .unset, .unset, .unset] [(.int (1 : Int32)), (.int s0)]))
  refine own_by (fun t kk_ => XS.iand X0.here hx rfl (hb hby at_2) rfl kk_) ?_
  show OwnG p e below s _ _ _ (s₁.setTop (mkF m 3 #[.val (.int x0), .val (.int y0), .val (.int s0), .val (.int rr), .val (.int e0'), .val (.long t0), .second, .unset, .unset, .unset, .unset, .unset, .unset, .unset, .unset, .unset, .unset, .unset, .unset, .unset, .unset, .unset, .unset, .unset, .unset, .unset] [(.int (s0 &&& (1 : Int32)))]))
  by_cases hb3_1 : (s0 &&& (1 : Int32)) = (0 : Int32)
  · refine own_by (fun t kk_ => XS.ifYes X0.here hx rfl (pc0 := 3) (pc' := 10) rfl (hb hby at_3) rfl ((if0 _ _).trans (teq hb3_1).1) (by decide) (by decide) kk_) ?_
    show OwnG p e below s _ _ _ (s₁.setTop (mkF m 10 #[.val (.int x0), .val (.int y0), .val (.int s0), .val (.int rr), .val (.int e0'), .val (.long t0), .second, .unset, .unset, .unset, .unset, .unset, .unset, .unset, .unset, .unset, .unset, .unset, .unset, .unset, .unset, .unset, .unset, .unset, .unset, .unset] []))
    refine own_by (fun t kk_ => XS.iconst X0.here hx rfl (hb hby at_10) kk_) ?_
    show OwnG p e below s _ _ _ (s₁.setTop (mkF m 11 #[.val (.int x0), .val (.int y0), .val (.int s0), .val (.int rr), .val (.int e0'), .val (.long t0), .second, .unset, .unset, .unset, .unset, .unset, .unset, .unset, .unset, .unset, .unset, .unset, .unset, .unset, .unset, .unset, .unset, .unset, .unset, .unset] [(.int (0 : Int32))]))
    refine own_by (fun t kk_ => XS.istore X0.here hx rfl (hb hby at_11) rfl (l' := #[.val (.int x0), .val (.int y0), .val (.int s0), .val (.int rr), .val (.int e0'), .val (.long t0), .second, .val (.int (0 : Int32)), .unset, .unset, .unset, .unset, .unset, .unset, .unset, .unset, .unset, .unset, .unset, .unset, .unset, .unset, .unset, .unset, .unset, .unset]) rfl kk_) ?_
    show OwnG p e below s _ _ _ (s₁.setTop (mkF m 13 #[.val (.int x0), .val (.int y0), .val (.int s0), .val (.int rr), .val (.int e0'), .val (.long t0), .second, .val (.int (0 : Int32)), .unset, .unset, .unset, .unset, .unset, .unset, .unset, .unset, .unset, .unset, .unset, .unset, .unset, .unset, .unset, .unset, .unset, .unset] []))
    refine own_by (fun t kk_ => XS.iload X0.here hx rfl (hb hby at_13) rfl  kk_) ?_
    show OwnG p e below s _ _ _ (s₁.setTop (mkF m 15 #[.val (.int x0), .val (.int y0), .val (.int s0), .val (.int rr), .val (.int e0'), .val (.long t0), .second, .val (.int (0 : Int32)), .unset, .unset, .unset, .unset, .unset, .unset, .unset, .unset, .unset, .unset, .unset, .unset, .unset, .unset, .unset, .unset, .unset, .unset] [(.int (0 : Int32))]))
    refine own_by (fun t kk_ => XS.ifYes X0.here hx rfl (pc0 := 15) (pc' := 25) rfl (hb hby at_15) rfl ((if0 _ _).trans (teq (by decide)).1) (by decide) (by decide) kk_) ?_
    show OwnG p e below s _ _ _ (s₁.setTop (mkF m 25 #[.val (.int x0), .val (.int y0), .val (.int s0), .val (.int rr), .val (.int e0'), .val (.long t0), .second, .val (.int (0 : Int32)), .unset, .unset, .unset, .unset, .unset, .unset, .unset, .unset, .unset, .unset, .unset, .unset, .unset, .unset, .unset, .unset, .unset, .unset] []))
    refine own_by (fun t kk_ => XS.iloadN X0.here hx rfl (hb hby at_25) rfl  kk_) ?_
    show OwnG p e below s _ _ _ (s₁.setTop (mkF m 26 #[.val (.int x0), .val (.int y0), .val (.int s0), .val (.int rr), .val (.int e0'), .val (.long t0), .second, .val (.int (0 : Int32)), .unset, .unset, .unset, .unset, .unset, .unset, .unset, .unset, .unset, .unset, .unset, .unset, .unset, .unset, .unset, .unset, .unset, .unset] [(.int x0)]))
    refine own_by (fun t kk_ => X0.ldcInt hx hown (mvT hZ (hw _ (List.mem_of_getElem? (i := 0) rfl))) (g := (mkF m 26 #[.val (.int x0), .val (.int y0), .val (.int s0), .val (.int rr), .val (.int e0'), .val (.long t0), .second, .val (.int (0 : Int32)), .unset, .unset, .unset, .unset, .unset, .unset, .unset, .unset, .unset, .unset, .unset, .unset, .unset, .unset, .unset, .unset, .unset, .unset] [(.int x0)])) rfl (hb hby at_26) _ kk_) ?_
    show OwnG p e below s _ _ _ (s₁.setTop (mkF m 28 #[.val (.int x0), .val (.int y0), .val (.int s0), .val (.int rr), .val (.int e0'), .val (.long t0), .second, .val (.int (0 : Int32)), .unset, .unset, .unset, .unset, .unset, .unset, .unset, .unset, .unset, .unset, .unset, .unset, .unset, .unset, .unset, .unset, .unset, .unset] [(.int (2147483647 : Int32)), (.int x0)]))
    refine own_by (fun t kk_ => XS.iand X0.here hx rfl (hb hby at_28) rfl kk_) ?_
    show OwnG p e below s _ _ _ (s₁.setTop (mkF m 29 #[.val (.int x0), .val (.int y0), .val (.int s0), .val (.int rr), .val (.int e0'), .val (.long t0), .second, .val (.int (0 : Int32)), .unset, .unset, .unset, .unset, .unset, .unset, .unset, .unset, .unset, .unset, .unset, .unset, .unset, .unset, .unset, .unset, .unset, .unset] [(.int (x0 &&& (2147483647 : Int32)))]))
    refine own_by (fun t kk_ => XS.istore X0.here hx rfl (hb hby at_29) rfl (l' := #[.val (.int x0), .val (.int y0), .val (.int s0), .val (.int rr), .val (.int e0'), .val (.long t0), .second, .val (.int (0 : Int32)), .val (.int (x0 &&& (2147483647 : Int32))), .unset, .unset, .unset, .unset, .unset, .unset, .unset, .unset, .unset, .unset, .unset, .unset, .unset, .unset, .unset, .unset, .unset]) rfl kk_) ?_
    show OwnG p e below s _ _ _ (s₁.setTop (mkF m 31 #[.val (.int x0), .val (.int y0), .val (.int s0), .val (.int rr), .val (.int e0'), .val (.long t0), .second, .val (.int (0 : Int32)), .val (.int (x0 &&& (2147483647 : Int32))), .unset, .unset, .unset, .unset, .unset, .unset, .unset, .unset, .unset, .unset, .unset, .unset, .unset, .unset, .unset, .unset, .unset] []))
    refine own_by (fun t kk_ => XS.iload X0.here hx rfl (hb hby at_31) rfl  kk_) ?_
    show OwnG p e below s _ _ _ (s₁.setTop (mkF m 33 #[.val (.int x0), .val (.int y0), .val (.int s0), .val (.int rr), .val (.int e0'), .val (.long t0), .second, .val (.int (0 : Int32)), .val (.int (x0 &&& (2147483647 : Int32))), .unset, .unset, .unset, .unset, .unset, .unset, .unset, .unset, .unset, .unset, .unset, .unset, .unset, .unset, .unset, .unset, .unset] [(.int (0 : Int32))]))
    refine own_by (fun t kk_ => XS.ifYes X0.here hx rfl (pc0 := 33) (pc' := 41) rfl (hb hby at_33) rfl ((if0 _ _).trans (teq (by decide)).1) (by decide) (by decide) kk_) ?_
    show OwnG p e below s _ _ _ (s₁.setTop (mkF m 41 #[.val (.int x0), .val (.int y0), .val (.int s0), .val (.int rr), .val (.int e0'), .val (.long t0), .second, .val (.int (0 : Int32)), .val (.int (x0 &&& (2147483647 : Int32))), .unset, .unset, .unset, .unset, .unset, .unset, .unset, .unset, .unset, .unset, .unset, .unset, .unset, .unset, .unset, .unset, .unset] []))
    refine own_by (fun t kk_ => XS.iloadN X0.here hx rfl (hb hby at_41) rfl  kk_) ?_
    show OwnG p e below s _ _ _ (s₁.setTop (mkF m 42 #[.val (.int x0), .val (.int y0), .val (.int s0), .val (.int rr), .val (.int e0'), .val (.long t0), .second, .val (.int (0 : Int32)), .val (.int (x0 &&& (2147483647 : Int32))), .unset, .unset, .unset, .unset, .unset, .unset, .unset, .unset, .unset, .unset, .unset, .unset, .unset, .unset, .unset, .unset, .unset] [(.int y0)]))
    refine own_by (fun t kk_ => XS.bipush X0.here hx rfl (hb hby at_42) kk_) ?_
    show OwnG p e below s _ _ _ (s₁.setTop (mkF m 44 #[.val (.int x0), .val (.int y0), .val (.int s0), .val (.int rr), .val (.int e0'), .val (.long t0), .second, .val (.int (0 : Int32)), .val (.int (x0 &&& (2147483647 : Int32))), .unset, .unset, .unset, .unset, .unset, .unset, .unset, .unset, .unset, .unset, .unset, .unset, .unset, .unset, .unset, .unset, .unset] [(.int (10 : Int32)), (.int y0)]))
    refine own_by (fun t kk_ => XS.ishr X0.here hx rfl (hb hby at_44) rfl kk_) ?_
    show OwnG p e below s _ _ _ (s₁.setTop (mkF m 45 #[.val (.int x0), .val (.int y0), .val (.int s0), .val (.int rr), .val (.int e0'), .val (.long t0), .second, .val (.int (0 : Int32)), .val (.int (x0 &&& (2147483647 : Int32))), .unset, .unset, .unset, .unset, .unset, .unset, .unset, .unset, .unset, .unset, .unset, .unset, .unset, .unset, .unset, .unset, .unset] [(.int (y0 >>> ((10 : Int32) &&& 31)))]))
    refine own_by (fun t kk_ => XS.i2l X0.here hx rfl (hb hby at_45) rfl kk_) ?_
    show OwnG p e below s _ _ _ (s₁.setTop (mkF m 46 #[.val (.int x0), .val (.int y0), .val (.int s0), .val (.int rr), .val (.int e0'), .val (.long t0), .second, .val (.int (0 : Int32)), .val (.int (x0 &&& (2147483647 : Int32))), .unset, .unset, .unset, .unset, .unset, .unset, .unset, .unset, .unset, .unset, .unset, .unset, .unset, .unset, .unset, .unset, .unset] [(.long ((y0 >>> ((10 : Int32) &&& 31)).toInt64))]))
    refine own_by (fun t kk_ => XS.lstore X0.here hx rfl (hb hby at_46) rfl (l' := #[.val (.int x0), .val (.int y0), .val (.int s0), .val (.int rr), .val (.int e0'), .val (.long t0), .second, .val (.int (0 : Int32)), .val (.int (x0 &&& (2147483647 : Int32))), .val (.long ((y0 >>> ((10 : Int32) &&& 31)).toInt64)), .second, .unset, .unset, .unset, .unset, .unset, .unset, .unset, .unset, .unset, .unset, .unset, .unset, .unset, .unset, .unset]) rfl kk_) ?_
    show OwnG p e below s _ _ _ (s₁.setTop (mkF m 48 #[.val (.int x0), .val (.int y0), .val (.int s0), .val (.int rr), .val (.int e0'), .val (.long t0), .second, .val (.int (0 : Int32)), .val (.int (x0 &&& (2147483647 : Int32))), .val (.long ((y0 >>> ((10 : Int32) &&& 31)).toInt64)), .second, .unset, .unset, .unset, .unset, .unset, .unset, .unset, .unset, .unset, .unset, .unset, .unset, .unset, .unset, .unset] []))
    exact own_tail x0 y0 s0 rr e0' t0 _ _ _ X0 hx hby hml hret hlk hown hnm hZ hw e0 N0 Z0 (own_Bl x0 y0)
  · refine own_by (fun t kk_ => XS.ifNo X0.here hx rfl (hb hby at_3) rfl ((if0 _ _).trans (feq hb3_1).1) kk_) ?_
    show OwnG p e below s _ _ _ (s₁.setTop (mkF m 6 #[.val (.int x0), .val (.int y0), .val (.int s0), .val (.int rr), .val (.int e0'), .val (.long t0), .second, .unset, .unset, .unset, .unset, .unset, .unset, .unset, .unset, .unset, .unset, .unset, .unset, .unset, .unset, .unset, .unset, .unset, .unset, .unset] []))
    refine own_by (fun t kk_ => XS.iconst X0.here hx rfl (hb hby at_6) kk_) ?_
    show OwnG p e below s _ _ _ (s₁.setTop (mkF m 7 #[.val (.int x0), .val (.int y0), .val (.int s0), .val (.int rr), .val (.int e0'), .val (.long t0), .second, .unset, .unset, .unset, .unset, .unset, .unset, .unset, .unset, .unset, .unset, .unset, .unset, .unset, .unset, .unset, .unset, .unset, .unset, .unset] [(.int (1 : Int32))]))
    refine own_by (fun t kk_ => XS.goto X0.here hx rfl (pc0 := 7) (pc' := 11) rfl (hb hby at_7) (by decide) (by decide) kk_) ?_
    show OwnG p e below s _ _ _ (s₁.setTop (mkF m 11 #[.val (.int x0), .val (.int y0), .val (.int s0), .val (.int rr), .val (.int e0'), .val (.long t0), .second, .unset, .unset, .unset, .unset, .unset, .unset, .unset, .unset, .unset, .unset, .unset, .unset, .unset, .unset, .unset, .unset, .unset, .unset, .unset] [(.int (1 : Int32))]))
    refine own_by (fun t kk_ => XS.istore X0.here hx rfl (hb hby at_11) rfl (l' := #[.val (.int x0), .val (.int y0), .val (.int s0), .val (.int rr), .val (.int e0'), .val (.long t0), .second, .val (.int (1 : Int32)), .unset, .unset, .unset, .unset, .unset, .unset, .unset, .unset, .unset, .unset, .unset, .unset, .unset, .unset, .unset, .unset, .unset, .unset]) rfl kk_) ?_
    show OwnG p e below s _ _ _ (s₁.setTop (mkF m 13 #[.val (.int x0), .val (.int y0), .val (.int s0), .val (.int rr), .val (.int e0'), .val (.long t0), .second, .val (.int (1 : Int32)), .unset, .unset, .unset, .unset, .unset, .unset, .unset, .unset, .unset, .unset, .unset, .unset, .unset, .unset, .unset, .unset, .unset, .unset] []))
    refine own_by (fun t kk_ => XS.iload X0.here hx rfl (hb hby at_13) rfl  kk_) ?_
    show OwnG p e below s _ _ _ (s₁.setTop (mkF m 15 #[.val (.int x0), .val (.int y0), .val (.int s0), .val (.int rr), .val (.int e0'), .val (.long t0), .second, .val (.int (1 : Int32)), .unset, .unset, .unset, .unset, .unset, .unset, .unset, .unset, .unset, .unset, .unset, .unset, .unset, .unset, .unset, .unset, .unset, .unset] [(.int (1 : Int32))]))
    refine own_by (fun t kk_ => XS.ifNo X0.here hx rfl (hb hby at_15) rfl ((if0 _ _).trans (feq (by decide)).1) kk_) ?_
    show OwnG p e below s _ _ _ (s₁.setTop (mkF m 18 #[.val (.int x0), .val (.int y0), .val (.int s0), .val (.int rr), .val (.int e0'), .val (.long t0), .second, .val (.int (1 : Int32)), .unset, .unset, .unset, .unset, .unset, .unset, .unset, .unset, .unset, .unset, .unset, .unset, .unset, .unset, .unset, .unset, .unset, .unset] []))
    refine own_by (fun t kk_ => XS.iloadN X0.here hx rfl (hb hby at_18) rfl  kk_) ?_
    show OwnG p e below s _ _ _ (s₁.setTop (mkF m 19 #[.val (.int x0), .val (.int y0), .val (.int s0), .val (.int rr), .val (.int e0'), .val (.long t0), .second, .val (.int (1 : Int32)), .unset, .unset, .unset, .unset, .unset, .unset, .unset, .unset, .unset, .unset, .unset, .unset, .unset, .unset, .unset, .unset, .unset, .unset] [(.int x0)]))
    refine own_by (fun t kk_ => X0.ldcInt hx hown (mvT hZ (hw _ (List.mem_of_getElem? (i := 25) rfl))) (g := (mkF m 19 #[.val (.int x0), .val (.int y0), .val (.int s0), .val (.int rr), .val (.int e0'), .val (.long t0), .second, .val (.int (1 : Int32)), .unset, .unset, .unset, .unset, .unset, .unset, .unset, .unset, .unset, .unset, .unset, .unset, .unset, .unset, .unset, .unset, .unset, .unset] [(.int x0)])) rfl (hb hby at_19) _ kk_) ?_
    show OwnG p e below s _ _ _ (s₁.setTop (mkF m 21 #[.val (.int x0), .val (.int y0), .val (.int s0), .val (.int rr), .val (.int e0'), .val (.long t0), .second, .val (.int (1 : Int32)), .unset, .unset, .unset, .unset, .unset, .unset, .unset, .unset, .unset, .unset, .unset, .unset, .unset, .unset, .unset, .unset, .unset, .unset] [(.int (1048575 : Int32)), (.int x0)]))
    refine own_by (fun t kk_ => XS.iand X0.here hx rfl (hb hby at_21) rfl kk_) ?_
    show OwnG p e below s _ _ _ (s₁.setTop (mkF m 22 #[.val (.int x0), .val (.int y0), .val (.int s0), .val (.int rr), .val (.int e0'), .val (.long t0), .second, .val (.int (1 : Int32)), .unset, .unset, .unset, .unset, .unset, .unset, .unset, .unset, .unset, .unset, .unset, .unset, .unset, .unset, .unset, .unset, .unset, .unset] [(.int (x0 &&& (1048575 : Int32)))]))
    refine own_by (fun t kk_ => XS.goto X0.here hx rfl (pc0 := 22) (pc' := 29) rfl (hb hby at_22) (by decide) (by decide) kk_) ?_
    show OwnG p e below s _ _ _ (s₁.setTop (mkF m 29 #[.val (.int x0), .val (.int y0), .val (.int s0), .val (.int rr), .val (.int e0'), .val (.long t0), .second, .val (.int (1 : Int32)), .unset, .unset, .unset, .unset, .unset, .unset, .unset, .unset, .unset, .unset, .unset, .unset, .unset, .unset, .unset, .unset, .unset, .unset] [(.int (x0 &&& (1048575 : Int32)))]))
    refine own_by (fun t kk_ => XS.istore X0.here hx rfl (hb hby at_29) rfl (l' := #[.val (.int x0), .val (.int y0), .val (.int s0), .val (.int rr), .val (.int e0'), .val (.long t0), .second, .val (.int (1 : Int32)), .val (.int (x0 &&& (1048575 : Int32))), .unset, .unset, .unset, .unset, .unset, .unset, .unset, .unset, .unset, .unset, .unset, .unset, .unset, .unset, .unset, .unset, .unset]) rfl kk_) ?_
    show OwnG p e below s _ _ _ (s₁.setTop (mkF m 31 #[.val (.int x0), .val (.int y0), .val (.int s0), .val (.int rr), .val (.int e0'), .val (.long t0), .second, .val (.int (1 : Int32)), .val (.int (x0 &&& (1048575 : Int32))), .unset, .unset, .unset, .unset, .unset, .unset, .unset, .unset, .unset, .unset, .unset, .unset, .unset, .unset, .unset, .unset, .unset] []))
    refine own_by (fun t kk_ => XS.iload X0.here hx rfl (hb hby at_31) rfl  kk_) ?_
    show OwnG p e below s _ _ _ (s₁.setTop (mkF m 33 #[.val (.int x0), .val (.int y0), .val (.int s0), .val (.int rr), .val (.int e0'), .val (.long t0), .second, .val (.int (1 : Int32)), .val (.int (x0 &&& (1048575 : Int32))), .unset, .unset, .unset, .unset, .unset, .unset, .unset, .unset, .unset, .unset, .unset, .unset, .unset, .unset, .unset, .unset, .unset] [(.int (1 : Int32))]))
    refine own_by (fun t kk_ => XS.ifNo X0.here hx rfl (hb hby at_33) rfl ((if0 _ _).trans (feq (by decide)).1) kk_) ?_
    show OwnG p e below s _ _ _ (s₁.setTop (mkF m 36 #[.val (.int x0), .val (.int y0), .val (.int s0), .val (.int rr), .val (.int e0'), .val (.long t0), .second, .val (.int (1 : Int32)), .val (.int (x0 &&& (1048575 : Int32))), .unset, .unset, .unset, .unset, .unset, .unset, .unset, .unset, .unset, .unset, .unset, .unset, .unset, .unset, .unset, .unset, .unset] []))
    refine own_by (fun t kk_ => XS.iloadN X0.here hx rfl (hb hby at_36) rfl  kk_) ?_
    show OwnG p e below s _ _ _ (s₁.setTop (mkF m 37 #[.val (.int x0), .val (.int y0), .val (.int s0), .val (.int rr), .val (.int e0'), .val (.long t0), .second, .val (.int (1 : Int32)), .val (.int (x0 &&& (1048575 : Int32))), .unset, .unset, .unset, .unset, .unset, .unset, .unset, .unset, .unset, .unset, .unset, .unset, .unset, .unset, .unset, .unset, .unset] [(.int y0)]))
    refine own_by (fun t kk_ => XS.i2l X0.here hx rfl (hb hby at_37) rfl kk_) ?_
    show OwnG p e below s _ _ _ (s₁.setTop (mkF m 38 #[.val (.int x0), .val (.int y0), .val (.int s0), .val (.int rr), .val (.int e0'), .val (.long t0), .second, .val (.int (1 : Int32)), .val (.int (x0 &&& (1048575 : Int32))), .unset, .unset, .unset, .unset, .unset, .unset, .unset, .unset, .unset, .unset, .unset, .unset, .unset, .unset, .unset, .unset, .unset] [(.long (y0.toInt64))]))
    refine own_by (fun t kk_ => XS.goto X0.here hx rfl (pc0 := 38) (pc' := 46) rfl (hb hby at_38) (by decide) (by decide) kk_) ?_
    show OwnG p e below s _ _ _ (s₁.setTop (mkF m 46 #[.val (.int x0), .val (.int y0), .val (.int s0), .val (.int rr), .val (.int e0'), .val (.long t0), .second, .val (.int (1 : Int32)), .val (.int (x0 &&& (1048575 : Int32))), .unset, .unset, .unset, .unset, .unset, .unset, .unset, .unset, .unset, .unset, .unset, .unset, .unset, .unset, .unset, .unset, .unset] [(.long (y0.toInt64))]))
    refine own_by (fun t kk_ => XS.lstore X0.here hx rfl (hb hby at_46) rfl (l' := #[.val (.int x0), .val (.int y0), .val (.int s0), .val (.int rr), .val (.int e0'), .val (.long t0), .second, .val (.int (1 : Int32)), .val (.int (x0 &&& (1048575 : Int32))), .val (.long (y0.toInt64)), .second, .unset, .unset, .unset, .unset, .unset, .unset, .unset, .unset, .unset, .unset, .unset, .unset, .unset, .unset, .unset]) rfl kk_) ?_
    show OwnG p e below s _ _ _ (s₁.setTop (mkF m 48 #[.val (.int x0), .val (.int y0), .val (.int s0), .val (.int rr), .val (.int e0'), .val (.long t0), .second, .val (.int (1 : Int32)), .val (.int (x0 &&& (1048575 : Int32))), .val (.long (y0.toInt64)), .second, .unset, .unset, .unset, .unset, .unset, .unset, .unset, .unset, .unset, .unset, .unset, .unset, .unset, .unset, .unset] []))
    exact own_tail x0 y0 s0 rr e0' t0 _ _ _ X0 hx hby hml hret hlk hown hnm hZ hw e0 N0 Z0 (own_Bs x0 y0)
set_option maxRecDepth 65536 in
set_option maxHeartbeats 40000000 in
theorem comes_1 {Post : Tables → Env → Array Value → State → Outcome → State → Prop} (hpost : ∀ tb e args s v u, (limb_1_1.after args s (.returned v) u = true ∧ limb_1_2.after args s (.returned v) u = true ∧ True) → FrameEnd s (.returned v) u (Jvm.fieldLocs frame_1_writes args s ++ Jvm.arrayLocs frame_1_arrays args s ++ Jvm.staticLocs frame_1_statics s) 16 128 → Post tb e args s (.returned v) u) :
    ArmFor flags0 classFile x code maxLocals ret World_1 tables_1 room_1 Calls_1 rest_1 Pre_1 Post := by
  intro l hfl _ _ p e ha hc hk s m args below hf hA hF happ hP
  obtain ⟨hcalls, hrest, hpre⟩ := hP
  obtain ⟨-, -, -, hnamed, -, -, -, hat⟩ := (Spec.applies_iff hf).mp happ
  obtain ⟨hg, hn⟩ := and_e (Cond.before_iff.mp (show (Jvm.Cond.and given_1 narrow_1).before args s = true from hpre))
  obtain ⟨gc, gr0⟩ := and_e hg
  obtain ⟨ga0, gr1⟩ := and_e gr0
  obtain ⟨ga1, gr2⟩ := and_e gr1
  obtain ⟨ga2, gr3⟩ := and_e gr2
  obtain ⟨ga3, gr4⟩ := and_e gr3
  obtain ⟨ga4, gr5⟩ := and_e gr4
  obtain ⟨w0, w1, w2, w3, w4, w5, rfl⟩ : ∃ w0 w1 w2 w3 w4 w5 : Value, args = #[w0, w1, w2, w3, w4, w5] := by
    have hs : args.size = 6 := by simpa [Cond.value, given_1] using gc
    obtain ⟨L⟩ := args
    match L, hs with
    | [w0, w1, w2, w3, w4, w5], _ => exact ⟨w0, w1, w2, w3, w4, w5, rfl⟩
  have hw := fun d (hd : d ∈ tables_1) => atoms_spec (ws := Jvm.Cond.code x code maxLocals ret :: tables_1) hat d (List.mem_cons_of_mem _ hd)
  obtain ⟨i0, ei0⟩ := is_v ga0
  obtain rfl : w0 = (.int i0) := Option.some.inj ei0
  obtain ⟨i1, ei1⟩ := is_v ga1
  obtain rfl : w1 = (.int i1) := Option.some.inj ei1
  obtain ⟨i2, ei2⟩ := is_v ga2
  obtain rfl : w2 = (.int i2) := Option.some.inj ei2
  obtain ⟨i3, ei3⟩ := is_v ga3
  obtain rfl : w3 = (.int i3) := Option.some.inj ei3
  obtain ⟨i4, ei4⟩ := is_v ga4
  obtain rfl : w4 = (.int i4) := Option.some.inj ei4
  obtain ⟨i5, ei5⟩ := isL_v gr5
  obtain rfl : w5 = (.long i5) := Option.some.inj ei5
  obtain ⟨n, o, h1, h2, h3, _, L, rfl, ⟨rfl, N⟩, hq⟩ := rm0 l s _ hw tables_1 i0 i1 i2 i3 i4 i5 s.heap s.heap.size (Nat.le_refl _) p e ha hc hk s m _ below hf ((Spec.applies_iff_loose hf).mp happ).1 ⟨rfl, State.Warmed39.refl s, rfl⟩ trivial
  refine ⟨n, _, h1, h2, h3, hpost _ _ _ _ _ _ ⟨Cond.after_iff.mpr rfl, Cond.after_iff.mpr (eq_i res_at (Term.int_eval (1)) rfl), trivial⟩ ⟨hq.1, hq.2.1, (hq.2.2.sift fun y hy => Or.inr (N y hy)).mono (by decide) (by decide)⟩⟩
theorem main_1_1 : Claimed_1_1 := comes_1 fun _ _ _ _ _ _ h hF => ⟨h.1, hF⟩
theorem main_1_2 : Claimed_1_2 := comes_1 fun _ _ _ _ _ _ h hF => ⟨h.2.1, hF⟩
end Jvm.Pilot.@@N@@
namespace Jvm.Pilot.@@N@@
open Jvm Jvm.ClassFile Sem Op Lib Jvm.Free Jvm.Stand Jvm.Pilot.@@N@@.Jvm.D
/-! MADE BY PROGRAM (witnessworld.py) out of the Statement's table words and the real class files: 9 classes; the members and pool entries that the words name. The judged class is class 1, her method 1. -/
namespace start1
open Jvm.ClassFile
def u (s : String) : CpInfo := .utf8 (stringToUtf16 s)
/-- a pool by its gaps: so many unusable entries, then the entry; so many at the end -/
def gap : Nat → List CpInfo → List CpInfo
  | 0, r => r
  | n + 1, r => .unusable :: gap n r
def poolList (es : List (Nat × CpInfo)) (last : Nat) : List CpInfo := es.foldr (fun e r => gap e.1 (e.2 :: r)) (gap last [])
def pool (es : List (Nat × CpInfo)) (last : Nat) : Array CpInfo := ⟨poolList es last⟩
def fileOf (pool : Array CpInfo) (this : Nat) (attrs : Array Attribute := #[]) (ms : Array MethodInfo := #[]) (fl : Nat := 33) (sup : Nat := 0) (ifs : Array Nat := #[]) (fds : Array FieldInfo := #[]) : ClassFile where
  minorVersion := 0
  majorVersion := 65
  constantPool := pool
  accessFlags := fl
  thisClass := this
  superClass := sup
  interfaces := ifs
  fields := fds
  methods := ms
  attributes := attrs
def plain (name : String) (sup : Option ClassId) : Class where
  name := name
  kind := .ordinary
  loader := none
  accessFlags := 33
  super := sup
  interfaces := #[]
  cf := none
  fields := #[]
  methods := #[]
  instanceTypes := #[]
  staticTypes := #[]
  resolved := #[]
  callSites := []
  init := .initialized
  statics := none
  mirror := none

def pool0 : Array CpInfo := pool [(5, u "<init>"), (0, u "()V"), (1, .class_ 10), (1, u "java/lang/Object")] 113

def k0c0 : Code := { maxStack := 0, maxLocals := 1, code := object_method_1_code, exceptionTable := #[], attributes := #[] }
def k0m0 : Method := { name := "<init>", desc := "()V", sig := { parameters := [], returnType := none }, accessFlags := 1, code := some k0c0 }
/-- java/lang/Object -/
def k0 : Class := { plain "java/lang/Object" none with
  accessFlags := 33
  interfaces := #[]
  cf := some (fileOf pool0 8 #[] #[{ accessFlags := 1, nameIndex := 5, descriptorIndex := 6, attributes := #[] }] 33 0 #[] #[])
  fields := #[]
  methods := #[k0m0]
  instanceTypes := #[]
  staticTypes := #[]
  resolved := Array.replicate 124 none
  statics := none }

def pool1 : Array CpInfo := pool [(2, .class_ 4), (1, u "java/lang/Object"), (0, u "<init>"), (0, u "()V"), (0, .integer 1048575), (0, .integer 2147483647), (0, .class_ 10), (0, u "com/example/iota_ranker/iotaranker/index/CollectionStatistics"), (0, .methodref 9 12), (0, .nameAndType 5 13), (0, u "(IIJIJ)V"), (0, .methodref 9 15), (0, .nameAndType 16 17), (0, u "averageDocumentLength"), (0, u "()D"), (0, .double 4602678819172646912), (1, .long 2), (1, .class_ 23), (0, u "com/example/iota_ranker/iotaranker/index/CollectionStatisticsAverageDocumentLengthPinLaw"), (2, u "law"), (0, u "(IIIIIJ)Z")] 3

def k1m0 : Method := { name := "<init>", desc := "()V", sig := { parameters := [], returnType := none }, accessFlags := 1, code := none }
def k1c1 : Code := { maxStack := 9, maxLocals := 26, code := code, exceptionTable := #[], attributes := #[] }
def k1m1 : Method := { name := "law", desc := "(IIIIIJ)Z", sig := { parameters := [.int, .int, .int, .int, .int, .long], returnType := some .boolean }, accessFlags := 9, code := some k1c1 }
/-- com/example/iota_ranker/iotaranker/index/CollectionStatisticsAverageDocumentLengthPinLaw -/
def k1 : Class := { plain "com/example/iota_ranker/iotaranker/index/CollectionStatisticsAverageDocumentLengthPinLaw" (some 0) with
  accessFlags := 49
  interfaces := #[]
  cf := some (fileOf pool1 22 #[] #[{ accessFlags := 1, nameIndex := 5, descriptorIndex := 6, attributes := #[] }, { accessFlags := 9, nameIndex := 26, descriptorIndex := 27, attributes := #[] }] 49 2 #[] #[])
  fields := #[]
  methods := #[k1m0, k1m1]
  instanceTypes := #[]
  staticTypes := #[]
  resolved := Array.replicate 31 none
  statics := none }

def pool2 : Array CpInfo := pool [(1, .methodref 2 3), (0, .class_ 4), (0, .nameAndType 5 6), (0, u "java/lang/Object"), (0, u "<init>"), (0, u "()V"), (0, .fieldref 8 9), (0, .class_ 10), (0, .nameAndType 11 12), (0, u "com/example/iota_ranker/iotaranker/index/CollectionStatistics"), (0, u "documents"), (0, u "I"), (0, .fieldref 8 14), (0, .nameAndType 15 12), (0, u "emptyDocuments"), (0, .fieldref 8 17), (0, .nameAndType 18 19), (0, u "tokens"), (0, u "J"), (0, .fieldref 8 21), (0, .nameAndType 22 12), (0, u "terms"), (0, .fieldref 8 24), (0, .nameAndType 25 19), (0, u "postings"), (21, u "DOCUMENTS"), (0, u "Ljava/lang/String;"), (1, u "EMPTY_DOCUMENTS"), (0, u "TOKENS"), (0, u "TERMS"), (0, u "POSTINGS"), (0, u "(IIJIJ)V"), (4, u "averageDocumentLength"), (0, u "()D")] 7

def k2c0 : Code := { maxStack := 3, maxLocals := 8, code := prog_48_method_1_code, exceptionTable := #[], attributes := #[] }
def k2m0 : Method := { name := "<init>", desc := "(IIJIJ)V", sig := { parameters := [.int, .int, .long, .int, .long], returnType := none }, accessFlags := 0, code := some k2c0 }
def k2c1 : Code := { maxStack := 4, maxLocals := 1, code := prog_48_method_7_code, exceptionTable := #[], attributes := #[] }
def k2m1 : Method := { name := "averageDocumentLength", desc := "()D", sig := { parameters := [], returnType := some .double }, accessFlags := 1, code := some k2c1 }
/-- com/example/iota_ranker/iotaranker/index/CollectionStatistics -/
def k2 : Class := { plain "com/example/iota_ranker/iotaranker/index/CollectionStatistics" (some 0) with
  accessFlags := 49
  interfaces := #[]
  cf := some (fileOf pool2 8 #[] #[{ accessFlags := 0, nameIndex := 5, descriptorIndex := 54, attributes := #[] }, { accessFlags := 1, nameIndex := 59, descriptorIndex := 60, attributes := #[] }] 49 2 #[] #[{ accessFlags := 24, nameIndex := 47, descriptorIndex := 48, attributes := #[] }, { accessFlags := 24, nameIndex := 50, descriptorIndex := 48, attributes := #[] }, { accessFlags := 24, nameIndex := 51, descriptorIndex := 48, attributes := #[] }, { accessFlags := 24, nameIndex := 52, descriptorIndex := 48, attributes := #[] }, { accessFlags := 24, nameIndex := 53, descriptorIndex := 48, attributes := #[] }, { accessFlags := 18, nameIndex := 11, descriptorIndex := 12, attributes := #[] }, { accessFlags := 18, nameIndex := 15, descriptorIndex := 12, attributes := #[] }, { accessFlags := 18, nameIndex := 18, descriptorIndex := 19, attributes := #[] }, { accessFlags := 18, nameIndex := 22, descriptorIndex := 12, attributes := #[] }, { accessFlags := 18, nameIndex := 25, descriptorIndex := 19, attributes := #[] }])
  fields := #[{ name := "DOCUMENTS", type := (.object "java/lang/String"), accessFlags := 24, slot := 0, constantValue := 0 }, { name := "EMPTY_DOCUMENTS", type := (.object "java/lang/String"), accessFlags := 24, slot := 1, constantValue := 0 }, { name := "TOKENS", type := (.object "java/lang/String"), accessFlags := 24, slot := 2, constantValue := 0 }, { name := "TERMS", type := (.object "java/lang/String"), accessFlags := 24, slot := 3, constantValue := 0 }, { name := "POSTINGS", type := (.object "java/lang/String"), accessFlags := 24, slot := 4, constantValue := 0 }, { name := "documents", type := .int, accessFlags := 18, slot := 0, constantValue := 0 }, { name := "emptyDocuments", type := .int, accessFlags := 18, slot := 1, constantValue := 0 }, { name := "tokens", type := .long, accessFlags := 18, slot := 2, constantValue := 0 }, { name := "terms", type := .int, accessFlags := 18, slot := 3, constantValue := 0 }, { name := "postings", type := .long, accessFlags := 18, slot := 4, constantValue := 0 }]
  methods := #[k2m0, k2m1]
  instanceTypes := #[.int, .int, .long, .int, .long]
  staticTypes := #[(.object "java/lang/String"), (.object "java/lang/String"), (.object "java/lang/String"), (.object "java/lang/String"), (.object "java/lang/String")]
  resolved := Array.replicate 68 none
  statics := none }

def pool3 : Array CpInfo := pool [(1, u "java/lang/Cloneable"), (0, .class_ 1), (0, u "java/lang/Object"), (0, .class_ 3)] 3

/-- java/lang/Cloneable -/
def k3 : Class := { plain "java/lang/Cloneable" (some 0) with
  accessFlags := 1537
  interfaces := #[]
  cf := some (fileOf pool3 2 #[] #[] 1537 4 #[] #[])
  fields := #[]
  methods := #[]
  instanceTypes := #[]
  staticTypes := #[]
  resolved := Array.replicate 8 none
  statics := none }

def pool4 : Array CpInfo := pool [(1, u "java/io/Serializable"), (0, .class_ 1), (0, u "java/lang/Object"), (0, .class_ 3)] 3

/-- java/io/Serializable -/
def k4 : Class := { plain "java/io/Serializable" (some 0) with
  accessFlags := 1537
  interfaces := #[]
  cf := some (fileOf pool4 2 #[] #[] 1537 4 #[] #[])
  fields := #[]
  methods := #[]
  instanceTypes := #[]
  staticTypes := #[]
  resolved := Array.replicate 8 none
  statics := none }

/-- the primitive byte -/
def k5 : Class := { plain "byte" none with kind := .primitive 'B', accessFlags := 0x411 }
/-- [B -/
def k6 : Class := { plain "[B" (some 0) with kind := .array 5 .byte, interfaces := #[3, 4], accessFlags := 1041 }

/-- the primitive int -/
def k7 : Class := { plain "int" none with kind := .primitive 'I', accessFlags := 0x411 }
/-- [I -/
def k8 : Class := { plain "[I" (some 0) with kind := .array 7 .int, interfaces := #[3, 4], accessFlags := 1041 }

def heap : Heap := #[]
def classes : Array Class := #[k0, k1, k2, k3, k4, k5, k6, k7, k8]
def interned : List (Array UInt16 × Addr) := []
def slotsUsed : Nat := 0
def theMethod : MethodId := ⟨1, 1⟩
def args0 : Array Value := #[.int 5, .int 3, .int 3, .int 3, .int 3, .long 3]
def aboutOver (below : List Frame) : State where
  vm := { classes := classes, interned := interned.toArray }
  heap := heap
  slotsUsed := slotsUsed
  threads := #[{ frames := .invoking theMethod args0 :: below }]
def below0 : List Frame := [.native { method := ⟨0, 0⟩, args := #[] }]
def about1 : State := aboutOver below0
def p0 : Program := .bare "" "" ""
def e0 : Env := launch0.env 0 0 0
theorem w_frames : about1.frames = Frame.invoking theMethod args0 :: below0 := rfl
set_option maxRecDepth 65536 in
theorem w_args : argsFit about1.vm theMethod args0 = true := by decide +kernel
set_option maxRecDepth 65536 in
theorem w_heap : heapFits about1 = true := by decide +kernel
set_option maxRecDepth 65536 in
theorem w_runnable : about1.curStatus? = some .runnable := by decide +kernel
set_option maxRecDepth 65536 in
theorem w_alone : about1.alone = true := by decide +kernel
set_option maxRecDepth 65536 in
theorem w_named : about1.methodNamed? x = some theMethod := by decide +kernel
set_option maxRecDepth 65536 in
theorem w_hears : about1.hears theMethod below0 = true := by decide +kernel
set_option maxRecDepth 65536 in
theorem w_ripe : about1.ripe theMethod args0 below0 = true := by decide +kernel
theorem w_running : about1.status = .running := rfl
set_option maxRecDepth 65536 in
theorem w_room : about1.hasRoom e0.platform room_1 = true :=
  launch0.hasRoom_least _ room_1 (by decide +kernel) (by decide +kernel) (by decide +kernel) (by decide +kernel) (by decide +kernel) (by decide +kernel)
theorem allAtoms_all (ts : List Jvm.Cond) (a : Array Jvm.Value) (st : Jvm.State) : (allAtoms ts).before a st = ts.all (fun c => c.before a st) := by
  induction ts with
  | nil => rfl
  | cons c t ih =>
    show (Jvm.Cond.and c (allAtoms t)).before a st = _
    rw [Jvm.Cond.before_and, ih, List.all_cons]
def words1 : List Jvm.Cond := Jvm.Cond.code x code maxLocals ret :: tables_1
/-- a 'code' word, met by the world's own term for the bytes: nothing is compared byte by byte -/
theorem code_word {y : MethodName} {bytes : ByteArray} {mx : Nat} {rt : Option FieldType} {a : Array Value} {s : State} {m : MethodId} {meth : Method} {c : Code} (h1 : s.methodNamed? y = some m) (h2 : s.vm.method? m = some meth) (h3 : meth.code = some c) (h4 : c.code = bytes)
    (h5 : (c.maxLocals == mx && c.exceptionTable.isEmpty && decide (c.maxStack ≤ mostOperands) && decide (meth.sig.returnType = rt) && !meth.locks && decide (parseMethodDescriptor y.desc = some meth.sig)) = true) : (Jvm.Cond.code y bytes mx rt).before a s = true := by
  simp only [Bool.and_eq_true, beq_iff_eq, Bool.not_eq_true', decide_eq_true_eq] at h5
  obtain ⟨⟨⟨⟨⟨g1, g2⟩, g3⟩, g4⟩, g5⟩, g6⟩ := h5
  simp [Cond.before, Cond.holds, Cond.value, h1, h2, h3, h4, g1, g2, g3, g4, g5, g6]
def isCode : Jvm.Cond → Bool
  | .code _ _ _ _ => true
  | _ => false
theorem all_split {L : List Jvm.Cond} {P : Jvm.Cond → Bool} (h1 : L.all (fun c => isCode c || P c) = true) (h2 : ∀ c ∈ L.filter isCode, P c = true) : L.all P = true := by
  refine List.all_eq_true.mpr fun c hc => ?_
  have h := List.all_eq_true.mp h1 c hc
  rcases Bool.eq_false_or_eq_true (isCode c) with hi | hi
  · exact h2 c (List.mem_filter.mpr ⟨hc, hi⟩)
  · simpa [hi] using h
set_option maxRecDepth 65536 in
theorem w_c0 : (Jvm.Cond.code x code maxLocals ret).before args0 about1 = true := code_word (m := ⟨1, 1⟩) (meth := k1m1) (c := k1c1) (by decide +kernel) rfl rfl rfl (by decide +kernel)
set_option maxRecDepth 65536 in
theorem w_c1 : (Jvm.Cond.code ({ cls := "com/example/iota_ranker/iotaranker/index/CollectionStatistics", name := "<init>", desc := "(IIJIJ)V" } : Jvm.MethodName) prog_48_method_1_code (8 : Nat) (Option.none : Option Jvm.ClassFile.FieldType)).before args0 about1 = true := code_word (m := ⟨2, 0⟩) (meth := k2m0) (c := k2c0) (by decide +kernel) rfl rfl rfl (by decide +kernel)
set_option maxRecDepth 65536 in
theorem w_c2 : (Jvm.Cond.code ({ cls := "java/lang/Object", name := "<init>", desc := "()V" } : Jvm.MethodName) object_method_1_code (1 : Nat) (Option.none : Option Jvm.ClassFile.FieldType)).before args0 about1 = true := code_word (m := ⟨0, 0⟩) (meth := k0m0) (c := k0c0) (by decide +kernel) rfl rfl rfl (by decide +kernel)
set_option maxRecDepth 65536 in
theorem w_c3 : (Jvm.Cond.code ({ cls := "com/example/iota_ranker/iotaranker/index/CollectionStatistics", name := "averageDocumentLength", desc := "()D" } : Jvm.MethodName) prog_48_method_7_code (1 : Nat) (Option.some Jvm.ClassFile.FieldType.double)).before args0 about1 = true := code_word (m := ⟨2, 1⟩) (meth := k2m1) (c := k2c1) (by decide +kernel) rfl rfl rfl (by decide +kernel)
def codes1 : List Jvm.Cond := [Jvm.Cond.code x code maxLocals ret, Jvm.Cond.code ({ cls := "com/example/iota_ranker/iotaranker/index/CollectionStatistics", name := "<init>", desc := "(IIJIJ)V" } : Jvm.MethodName) prog_48_method_1_code (8 : Nat) (Option.none : Option Jvm.ClassFile.FieldType), Jvm.Cond.code ({ cls := "java/lang/Object", name := "<init>", desc := "()V" } : Jvm.MethodName) object_method_1_code (1 : Nat) (Option.none : Option Jvm.ClassFile.FieldType), Jvm.Cond.code ({ cls := "com/example/iota_ranker/iotaranker/index/CollectionStatistics", name := "averageDocumentLength", desc := "()D" } : Jvm.MethodName) prog_48_method_7_code (1 : Nat) (Option.some Jvm.ClassFile.FieldType.double)]
set_option maxRecDepth 65536 in
theorem codes_eq : words1.filter isCode = codes1 := rfl
theorem w_codes : ∀ c ∈ words1.filter isCode, c.before args0 about1 = true := by
  rw [codes_eq]
  intro c hc
  simp only [codes1, List.mem_cons, List.not_mem_nil, or_false] at hc
  rcases hc with rfl | rfl | rfl | rfl
  · exact w_c0
  · exact w_c1
  · exact w_c2
  · exact w_c3
set_option maxRecDepth 65536 in
theorem w_t1 : (words1.take 24).all (fun c => isCode c || c.before args0 about1) = true := by decide +kernel
set_option maxRecDepth 65536 in
theorem w_t2 : (words1.drop 24).all (fun c => isCode c || c.before args0 about1) = true := by decide +kernel
theorem w_tables : (allAtoms (Jvm.Cond.code x code maxLocals ret :: tables_1)).before args0 about1 = true := by
  rw [allAtoms_all]
  show words1.all (fun c => c.before args0 about1) = true
  refine all_split ?_ w_codes
  rw [← List.take_append_drop 24 words1, List.all_append, w_t1, w_t2]
  rfl
set_option maxRecDepth 65536 in
theorem w_case : (Jvm.Cond.and given_1 narrow_1).before args0 about1 = true := by decide +kernel
theorem w_applies : (headSpec (Jvm.Cond.code x code maxLocals ret :: tables_1) room_1).applies x e0.platform about1 = true :=
  (Spec.applies_iff w_frames).mpr ⟨w_running, w_runnable, w_alone, w_named, w_hears, w_ripe, w_room, w_tables⟩
theorem atStart : AtStart classFile x code maxLocals ret World_1 tables_1 room_1 Calls_1 rest_1 Pre_1 launch0 p0 e0 about1 theMethod args0 below0 :=
  ⟨lists_1, trivial, launch0.admits_env _ _ _, launch0.least_env, fairChoices_fair.cas, fairChoices_fair.clock, w_frames, w_args, w_heap, w_applies, trivial, trivial, w_case⟩
end start1
theorem witness_1 : WitnessClaimed_1 := ⟨start1.p0, start1.e0, start1.about1, start1.theMethod, start1.args0, start1.below0, start1.atStart⟩
end Jvm.Pilot.@@N@@
