import JvmDerived
import JvmDerived.Pilot.@@N@@Statement
import JvmDerived.Pilot.@@N@@Code
set_option linter.unusedVariables false
set_option linter.unusedSimpArgs false
namespace Jvm.RoadKit
open Sem ClassFile Op Lib Jvm.Stand Jvm.Free Jvm.LawKit
section OwnKit
variable {p : Program} {l : Launch} {e : Env} {R : Room} {s : State} {m : MethodId} {args : Array Value} {below : List Frame} {meth : Method} {c : Code} {T : State} {locs : List Loc} {cells slots : Nat} {Q : Option Value → Heap → List Loc → Prop} {rc rs : Nat}
theorem retI (X : Stand p l e R s m args below meth c T locs cells slots) (hx : p.tables.exec = Jvm.exec) {pc : Nat} {Ls : Array Slot} {z : Int32} {rest : List Value} (hret : meth.sig.returnType = some .int) (hd : decode c.code pc = .ok (.ireturn, 1)) {fs : List Frame}
    (hl : ∀ (f : JFrame) (acts : List Action), f.method = m → f.locked = none → f.entered = [] → (doReturn e (T.setTop f) acts (some (.int z))).1 = T.setFrames fs) : Steps p.tables e below (T.setTop (mkF m pc Ls (.int z :: rest))) (T.setFrames fs) := by
  have hm' : T.vm.method? m = some meth := X.method'
  have hn : narrow .int (.int z) = .int z := rfl
  show Steps p.tables e below (T.setTop { method := m, pc := pc, locals := Ls, stack := _ :: rest, locked := none }) _
  jvm_step X.here [X.here.top, hx, hd, hm', hret, hn]
  first | (intro acts; rw [hl _ acts rfl rfl rfl]) | rw [hl _ _ rfl rfl rfl]
  exact Steps.refl _
theorem own_retA (X : Stand p l e R s m args below meth c T locs cells slots) (hx : p.tables.exec = Jvm.exec) {pc : Nat} {Ls : Array Slot} {w : Value} {ty : FieldType} {rest : List Value} (hw : w.isRef = true) (hty : ty.isReference = true) (hret : meth.sig.returnType = some ty) (hd : decode c.code pc = .ok (.areturn, 1)) {fs : List Frame}
    (hl : ∀ (f : JFrame) (acts : List Action), f.method = m → f.locked = none → f.entered = [] → (doReturn e (T.setTop f) acts (some w)).1 = T.setFrames fs) : Steps p.tables e below (T.setTop (mkF m pc Ls (w :: rest))) (T.setFrames fs) := by
  have hm' : T.vm.method? m = some meth := X.method'
  show Steps p.tables e below (T.setTop { method := m, pc := pc, locals := Ls, stack := _ :: rest, locked := none }) _
  jvm_step X.here [X.here.top, hx, hd, hm', hret, hw, hty]
  first | (intro acts; rw [hl _ acts rfl rfl rfl]) | rw [hl _ _ rfl rfl rfl]
  exact Steps.refl _
theorem own_retL (X : Stand p l e R s m args below meth c T locs cells slots) (hx : p.tables.exec = Jvm.exec) {pc : Nat} {Ls : Array Slot} {z : Int64} {rest : List Value} (hret : meth.sig.returnType = some .long) (hd : decode c.code pc = .ok (.lreturn, 1)) {fs : List Frame}
    (hl : ∀ (f : JFrame) (acts : List Action), f.method = m → f.locked = none → f.entered = [] → (doReturn e (T.setTop f) acts (some (.long z))).1 = T.setFrames fs) : Steps p.tables e below (T.setTop (mkF m pc Ls (.long z :: rest))) (T.setFrames fs) := by
  have hm' : T.vm.method? m = some meth := X.method'
  show Steps p.tables e below (T.setTop { method := m, pc := pc, locals := Ls, stack := _ :: rest, locked := none }) _
  jvm_step X.here [X.here.top, hx, hd, hm', hret]
  first | (intro acts; rw [hl _ acts rfl rfl rfl]) | rw [hl _ _ rfl rfl rfl]
  exact Steps.refl _
theorem own_retDbl (X : Stand p l e R s m args below meth c T locs cells slots) (hx : p.tables.exec = Jvm.exec) {pc : Nat} {Ls : Array Slot} {z : UInt64} {rest : List Value} (hret : meth.sig.returnType = some .double) (hd : decode c.code pc = .ok (.dreturn, 1)) {fs : List Frame}
    (hl : ∀ (f : JFrame) (acts : List Action), f.method = m → f.locked = none → f.entered = [] → (doReturn e (T.setTop f) acts (some (.double z))).1 = T.setFrames fs) : Steps p.tables e below (T.setTop (mkF m pc Ls (.double z :: rest))) (T.setFrames fs) := by
  have hm' : T.vm.method? m = some meth := X.method'
  show Steps p.tables e below (T.setTop { method := m, pc := pc, locals := Ls, stack := _ :: rest, locked := none }) _
  jvm_step X.here [X.here.top, hx, hd, hm', hret]
  first | (intro acts; rw [hl _ acts rfl rfl rfl]) | rw [hl _ _ rfl rfl rfl]
  exact Steps.refl _
/-- what is left to be shown from the state A on: the run comes back, and Q holds of what it leaves -/
def OwnG (p : Program) (e : Env) (below : List Frame) (s : State) (Q : Option Value → Heap → List Loc → Prop) (rc rs : Nat) (A : State) : Prop :=
  ∃ s₂ o, Steps p.tables e below A s₂ ∧ s₂.status = .running ∧ Ended s₂ below o ∧ ∃ v L, o = .returned v ∧ Q v s₂.heap L ∧ FrameEnd s o s₂ L rc rs
theorem own_by {A B : State} (k : ∀ t, Steps p.tables e below B t → Steps p.tables e below A t) (h : OwnG p e below s Q rc rs B) : OwnG p e below s Q rc rs A := by
  obtain ⟨s₂, o, h1, r⟩ := h
  exact ⟨s₂, o, k _ h1, r⟩
theorem own_out (X : Stand p l e R s m args below meth c T locs cells slots) {v : Option Value} (hv : meth.sig.returnType = none → v = none) (hlk : meth.locks = false) {A : State}
    (k : ∀ fs, (∀ (f : JFrame) (acts : List Action), f.method = m → f.locked = none → f.entered = [] → (doReturn e (T.setTop f) acts v).1 = T.setFrames fs) → Steps p.tables e below A (T.setFrames fs)) (hQ : Q v T.heap locs) (hc : cells ≤ rc) (hs : slots ≤ rs) : OwnG p e below s Q rc rs A := by
  obtain ⟨fs, hr, hrun, hended, hW, hsame⟩ := X.leave (v := v) hv hlk
  exact ⟨_, _, k fs hr, hrun, hended, _, _, rfl, hQ, ⟨_, rfl⟩, hW, hsame.mono hc hs⟩
theorem own_outI (X : Stand p l e R s m args below meth c T locs cells slots) (hx : p.tables.exec = Jvm.exec) {pc : Nat} {Ls : Array Slot} {z : Int32} {rest : List Value} (hret : meth.sig.returnType = some .int) (hlk : meth.locks = false) (hd : decode c.code pc = .ok (.ireturn, 1)) (hQ : Q (some (.int z)) T.heap locs) (hc : cells ≤ rc) (hs : slots ≤ rs) :
    OwnG p e below s Q rc rs (T.setTop (mkF m pc Ls (.int z :: rest))) :=
  own_out X (v := some (.int z)) (fun h => by rw [hret] at h; cases h) hlk (fun fs hr => retI X hx hret hd hr) hQ hc hs
theorem own_outA (X : Stand p l e R s m args below meth c T locs cells slots) (hx : p.tables.exec = Jvm.exec) {pc : Nat} {Ls : Array Slot} {w : Value} {ty : FieldType} {rest : List Value} (hw : w.isRef = true) (hty : ty.isReference = true) (hret : meth.sig.returnType = some ty) (hlk : meth.locks = false) (hd : decode c.code pc = .ok (.areturn, 1)) (hQ : Q (some w) T.heap locs) (hc : cells ≤ rc) (hs : slots ≤ rs) :
    OwnG p e below s Q rc rs (T.setTop (mkF m pc Ls (w :: rest))) :=
  own_out X (v := some w) (fun h => by rw [hret] at h; cases h) hlk (fun fs hr => own_retA X hx hw hty hret hd hr) hQ hc hs
theorem own_outL (X : Stand p l e R s m args below meth c T locs cells slots) (hx : p.tables.exec = Jvm.exec) {pc : Nat} {Ls : Array Slot} {z : Int64} {rest : List Value} (hret : meth.sig.returnType = some .long) (hlk : meth.locks = false) (hd : decode c.code pc = .ok (.lreturn, 1)) (hQ : Q (some (.long z)) T.heap locs) (hc : cells ≤ rc) (hs : slots ≤ rs) :
    OwnG p e below s Q rc rs (T.setTop (mkF m pc Ls (.long z :: rest))) :=
  own_out X (v := some (.long z)) (fun h => by rw [hret] at h; cases h) hlk (fun fs hr => own_retL X hx hret hd hr) hQ hc hs
theorem own_outD (X : Stand p l e R s m args below meth c T locs cells slots) (hx : p.tables.exec = Jvm.exec) {pc : Nat} {Ls : Array Slot} {z : UInt64} {rest : List Value} (hret : meth.sig.returnType = some .double) (hlk : meth.locks = false) (hd : decode c.code pc = .ok (.dreturn, 1)) (hQ : Q (some (.double z)) T.heap locs) (hc : cells ≤ rc) (hs : slots ≤ rs) :
    OwnG p e below s Q rc rs (T.setTop (mkF m pc Ls (.double z :: rest))) :=
  own_out X (v := some (.double z)) (fun h => by rw [hret] at h; cases h) hlk (fun fs hr => own_retDbl X hx hret hd hr) hQ hc hs
theorem own_outV (X : Stand p l e R s m args below meth c T locs cells slots) (hx : p.tables.exec = Jvm.exec) {pc : Nat} {Ls : Array Slot} (hret : meth.sig.returnType = none) (hlk : meth.locks = false) (hd : decode c.code pc = .ok (.return_, 1)) (hQ : Q none T.heap locs) (hc : cells ≤ rc) (hs : slots ≤ rs) :
    OwnG p e below s Q rc rs (T.setTop (mkF m pc Ls [])) :=
  own_out X (v := none) (fun _ => rfl) hlk (fun fs hr => X.returnOut hx hret hd hr) hQ hc hs
theorem own_outN (X : Stand p l e R s m args below meth c T locs cells slots) (hx : p.tables.exec = Jvm.exec) {pc : Nat} {Ls : Array Slot} {z z' : Int32} {t : FieldType} {rest : List Value} (hret : meth.sig.returnType = some t) (ht : t = .boolean ∨ t = .byte ∨ t = .char ∨ t = .short) (hlk : meth.locks = false) (hd : decode c.code pc = .ok (.ireturn, 1)) (hz : nar t z = z') (hQ : Q (some (.int z')) T.heap locs) (hc : cells ≤ rc) (hs : slots ≤ rs) :
    OwnG p e below s Q rc rs (T.setTop (mkF m pc Ls (.int z :: rest))) := by
  subst hz
  exact own_out X (v := some (.int (nar t z))) (fun h => by rw [hret] at h; cases h) hlk (fun fs hr => retN X hx (t := t) hret (by rcases ht with rfl | rfl | rfl | rfl <;> simp) hd hr) hQ hc hs
theorem own_met {y : MethodName} {bytes : ByteArray} {maxL : Nat} {ret : Option FieldType} {rm : Room} {ws : List Cond} {as' : Array Value} {Z : State} {h0 : Heap} (hpl : plainFor y = true)
    (body : ∀ (p : Program) (e : Env) (s : State) (m : MethodId) (below : List Frame) (meth : Method) (c : Code) (s₁ : State), p.tables.exec = Jvm.exec → c.code = bytes → c.maxLocals = maxL → meth.sig.returnType = ret → meth.locks = false → s.vm.findClass y.cls = some m.cls → meth.name = y.name → Z.Warmed39 s.vm →
      Stand p l e rm s m as' below meth c s₁ [] 0 0 → s₁.heap = h0 → OwnG p e below s Q rm.cells rm.slots (s₁.setTop (entryFrame m as' maxL))) :
    MetFree l y (head1 (Cond.code y bytes maxL ret :: ws) rm) (fun a U => a = as' ∧ Z.Warmed39 U.vm ∧ U.heap = h0) (fun _ _ _ _ _ => True) (fun _ U o U' => ∃ v L, o = .returned v ∧ Q v U'.heap L ∧ FrameEnd U o U' L rm.cells rm.slots) := by
  refine MetFree.of_bodySF hpl hisR ?_
  intro p e s m args below meth c s₁ Bd hml0 hP hK
  obtain ⟨rfl, hZ, hh⟩ := hP
  have e0 : s₁.heap = h0 := by rw [← hh, Bd.state]; rfl
  exact body p e s m below meth c s₁ Bd.exec Bd.bytes hml0 Bd.returns Bd.notSynchronized (findClass_of_methodNamed Bd.named) (name_of_methodNamed Bd.named Bd.method).1 hZ (Stand.of_body Bd) e0
theorem own_pop2J {tb : Tables} [Ours tb] {target : State} {g : JFrame} (h : At T m c below) (hx : tb.exec = Jvm.exec) (hg : g.method = m) {x : Int64} {rest : List Value} (hd : decode c.code g.pc = .ok (.pop2, 1)) (hs : g.stack = .long x :: rest)
    (hr : Steps tb e below (T.setTop { g with pc := g.pc + 1, stack := rest }) target) : Steps tb e below (T.setTop g) target := by
  subst hg
  jvm_step h [h.top, hx, hd, hs, Value.category]
  exact hr
theorem own_dup2I {tb : Tables} [Ours tb] {target : State} {g : JFrame} (h : At T m c below) (hx : tb.exec = Jvm.exec) (hg : g.method = m) {x : Int32} {a : Addr} {rest : List Value} (hd : decode c.code g.pc = .ok (.dup2, 1)) (hs : g.stack = .int x :: .ref a :: rest)
    (hr : Steps tb e below (T.setTop { g with pc := g.pc + 1, stack := .int x :: .ref a :: .int x :: .ref a :: rest }) target) : Steps tb e below (T.setTop g) target := by
  subst hg
  jvm_step h [h.top, hx, hd, hs, Value.category]
  exact hr
theorem own_selp {Z s : State} {a0 args : Array Value} {y : MethodName} {n : Nat} (hZ : Z.Warmed39 s.vm) (wi : (Cond.instantiable y.cls n).before a0 Z = true) (wp : (Cond.privateMethod y).before a0 Z = true) (wm : (Cond.instanceMethod y).before a0 Z = true) (hy : y.cls ≠ "java/lang/invoke/MethodHandle" ∧ y.cls ≠ "java/lang/invoke/VarHandle") : (Cond.selects y.cls y y).before args s = true := by
  obtain ⟨c, k, h1, h2, -, h4, -⟩ := Cond.instantiable_spec (mv (args := args) hZ wi)
  exact selects_self_of_private h1 h2 (Bool.or_eq_false_iff.mp h4).1 (Cond.privateMethod_at (mvP hZ wp (args := #[]))) (mvT hZ wm) hy
end OwnKit
end Jvm.RoadKit
namespace Jvm.OwnFl
open Jvm Jvm.ClassFile Jvm.Op Jvm.FP Jvm.FP.Core Jvm.Free.Fl
/-- the double x is finite and worth v units of the least exponent -/
def ownV (x : UInt64) (v : Int) : Prop := ∃ s c q, val64 x = .fin s c q ∧ b64.qmin ≤ q ∧ signed s (inUnits c q b64.qmin) = v
def ownK : Nat := 2 ^ ((-1 : Int) - b64.qmin).toNat
theorem ownK_pos : 0 < ownK := Nat.two_pow_pos _
theorem two_K : 2 ^ ((0 : Int) - b64.qmin).toNat = 2 * ownK := by
  have : ((0 : Int) - b64.qmin).toNat = ((-1 : Int) - b64.qmin).toNat + 1 := by decide
  rw [this, Nat.pow_succ]; unfold ownK; exact Nat.mul_comm _ _
theorem signed_mul (s : Bool) (a k : Nat) : signed s (a * k) = signed s a * k := by
  cases s <;> simp [signed, Int.neg_mul]
theorem cmp_scale (x y : Int) (k : Nat) (hk : 0 < k) : compare (x * k) (y * k) = compare x y := by
  have hk' : (0 : Int) < k := by omega
  rcases Int.lt_trichotomy x y with h | h | h
  · rw [Int.compare_eq_lt.mpr h, Int.compare_eq_lt.mpr (Int.mul_lt_mul_of_pos_right h hk')]
  · subst h; rw [Int.compare_eq_eq.mpr rfl, Int.compare_eq_eq.mpr rfl]
  · rw [Int.compare_eq_gt.mpr h, Int.compare_eq_gt.mpr (Int.mul_lt_mul_of_pos_right h hk')]
theorem own_cmp {x y : UInt64} {v w : Int} (hx : ownV x v) (hy : ownV y w) : FP.dcmp x y = some (compare v w) := by
  obtain ⟨s, c, q, h1, h2, h3⟩ := hx
  obtain ⟨t, d, r, g1, g2, g3⟩ := hy
  have e : FP.dcmp x y = order (val64 x) (val64 y) := rfl
  rw [e, h1, g1]
  unfold order
  have m1 := inUnits_move c (q := q) (r := min q r) (e := b64.qmin) (by omega) (by omega)
  have m2 := inUnits_move d (q := r) (r := min q r) (e := b64.qmin) (by omega) (by omega)
  rw [m1, signed_mul] at h3
  rw [m2, signed_mul] at g3
  rw [← h3, ← g3, cmp_scale _ _ _ (Nat.two_pow_pos _)]
theorem own_lt {x y : UInt64} {v w : Int} (hx : ownV x v) (hy : ownV y w) (h : w ≤ v) (o : CmpOp) : ¬ cmpValue (FP.dcmp x y) o < 0 := by
  rw [own_cmp hx hy]
  rcases Int.lt_or_eq_of_le h with h | h
  · rw [Int.compare_eq_gt.mpr h]; cases o <;> decide
  · rw [Int.compare_eq_eq.mpr h.symm]; cases o <;> decide
theorem own_gt {x y : UInt64} {v w : Int} (hx : ownV x v) (hy : ownV y w) (h : v ≤ w) (o : CmpOp) : ¬ 0 < cmpValue (FP.dcmp x y) o := by
  rw [own_cmp hx hy]
  rcases Int.lt_or_eq_of_le h with h | h
  · rw [Int.compare_eq_lt.mpr h]; cases o <;> decide
  · rw [Int.compare_eq_eq.mpr h]; cases o <;> decide
theorem own_eq {x y : UInt64} {v w : Int} (hx : ownV x v) (hy : ownV y w) (h : v = w) (o : CmpOp) : cmpValue (FP.dcmp x y) o = 0 := by
  rw [own_cmp hx hy, Int.compare_eq_eq.mpr h]; cases o <;> decide
/-- the rounding of A / B (in whole units), against a threshold of halves -/
theorem own_round_le {s t : Bool} {A B c : Nat} {e q : Int} (hB : 0 < B) (h : roundRatio b64 s A B e = .fin t c q) (he : b64.qmin ≤ e) {c' : Nat} {q' : Int} (hc : c' < 2 ^ 53) (hq : b64.qmin ≤ q') :
    (inUnits A e b64.qmin ≤ inUnits c' q' b64.qmin * B → inUnits c q b64.qmin ≤ inUnits c' q' b64.qmin) ∧ (inUnits c' q' b64.qmin * B ≤ inUnits A e b64.qmin → inUnits c' q' b64.qmin ≤ inUnits c q b64.qmin) := by
  have n := roundRatio_nearest good_b64 (e0 := b64.qmin) hB h (c' := c') (q' := q') hc hq (Int.le_refl _) he
  unfold distance at n
  generalize inUnits A e b64.qmin = X at *
  generalize inUnits c q b64.qmin = R at *
  generalize inUnits c' q' b64.qmin = Y at *
  rw [← Int.natCast_mul, ← Int.natCast_mul] at n
  constructor
  · intro hx
    rcases Nat.lt_or_ge Y R with g | g
    · have : (Y + 1) * B ≤ R * B := Nat.mul_le_mul_right B g
      rw [Nat.add_mul, Nat.one_mul] at this
      omega
    · exact g
  · intro hx
    rcases Nat.lt_or_ge R Y with g | g
    · have : (R + 1) * B ≤ Y * B := Nat.mul_le_mul_right B g
      rw [Nat.add_mul, Nat.one_mul] at this
      omega
    · exact g
theorem own_sign {s : Bool} {A B : Nat} {e : Int} : (∃ c q, roundRatio b64 s A B e = .fin s c q) ∨ roundRatio b64 s A B e = .inf s := by
  unfold roundRatio
  split
  · exact Or.inl ⟨_, _, rfl⟩
  · unfold roundAt settle bound
    split <;> split <;> first | exact Or.inl ⟨_, _, rfl⟩ | exact Or.inr rfl
theorem own_rr {x : UInt64} (hf : Fin64 x) {s : Bool} {A B : Nat} {e : Int} (hB : 0 < B) (h : val64 x = roundRatio b64 s A B e) : ∃ c q, val64 x = .fin s c q ∧ roundRatio b64 s A B e = .fin s c q ∧ b64.qmin ≤ q := by
  obtain ⟨s', c', q', w⟩ := fin64_core.mp hf
  rcases own_sign (s := s) (A := A) (B := B) (e := e) with ⟨c, q, g⟩ | g
  · refine ⟨c, q, h.trans g, g, ?_⟩
    have := roundRatio_fits good_b64 s A hB e
    rw [g] at this
    exact this.2.1
  · rw [h, g] at w; cases w
theorem own_exact {x : UInt64} (hf : Fin64 x) {s : Bool} {A : Nat} {e : Int} (h : val64 x = roundRatio b64 s A 1 e) (he : b64.qmin ≤ e) {c' : Nat} {q' : Int} (hc : c' < 2 ^ 53) (hq : b64.qmin ≤ q') (hx : inUnits A e b64.qmin = inUnits c' q' b64.qmin) : ownV x (signed s (inUnits c' q' b64.qmin)) := by
  obtain ⟨c, q, h1, h2, h3⟩ := own_rr hf (by decide) h
  obtain ⟨l1, l2⟩ := own_round_le (by decide) h2 he hc hq
  rw [Nat.mul_one, hx] at l1 l2
  exact ⟨s, c, q, h1, h3, by rw [Nat.le_antisymm (l1 (Nat.le_refl _)) (l2 (Nat.le_refl _))]⟩
theorem own_l2d {a : Int64} (h1 : -9007199254740992 < a.toInt) (h2 : a.toInt < 9007199254740992) : ownV (FP.l2d a) (a.toInt * (2 * ownK : Nat)) := by
  have e : val64 (FP.l2d a) = roundRatio b64 (decide (a.toInt < 0)) a.toInt.natAbs 1 0 := by
    rw [show FP.l2d a = Core.l2d a from rfl, val64_l2d]; rfl
  have q := own_exact (l2d_fin a) e (by decide) (c' := a.toInt.natAbs) (q' := 0) (by omega) (by decide) rfl
  have u : inUnits a.toInt.natAbs 0 b64.qmin = a.toInt.natAbs * (2 * ownK) := by unfold inUnits; rw [two_K]
  rw [u, signed_mul] at q
  have : signed (decide (a.toInt < 0)) a.toInt.natAbs = a.toInt := by
    unfold signed
    by_cases g : a.toInt < 0
    · simp [g]; omega
    · simp [g]; omega
  rw [this] at q
  exact q
theorem own_add {x y : UInt64} {v w N : Int} (hx : ownV x v) (hy : ownV y w) (hf : Fin64 (FP.dadd x y)) (hN : v + w = N * (ownK : Nat)) (h1 : -9007199254740992 < N) (h2 : N < 9007199254740992) : ownV (FP.dadd x y) (v + w) := by
  obtain ⟨s, c, q, a1, a2, a3⟩ := hx
  obtain ⟨t, d, r, b1, b2, b3⟩ := hy
  have m1 := inUnits_move c (q := q) (r := min q r) (e := b64.qmin) (by omega) (by omega)
  have m2 := inUnits_move d (q := r) (r := min q r) (e := b64.qmin) (by omega) (by omega)
  have e : val64 (FP.dadd x y) = roundRatio b64 (sumSign s t (sumUnits s c q t d r (min q r))) (sumUnits s c q t d r (min q r)).natAbs 1 (min q r) := by
    rw [show FP.dadd x y = Core.dadd x y from rfl, val64_dadd, a1, b1]; rfl
  rw [m1, signed_mul] at a3
  rw [m2, signed_mul] at b3
  have hS : sumUnits s c q t d r (min q r) * ((2 ^ (min q r - b64.qmin).toNat : Nat) : Int) = v + w := by
    unfold sumUnits
    rw [Int.add_mul, a3, b3]
  generalize sumUnits s c q t d r (min q r) = S at *
  have hu : inUnits S.natAbs (min q r) b64.qmin = (v + w).natAbs := by
    unfold inUnits
    rw [← hS, Int.natAbs_mul]
    rfl
  have hk : inUnits N.natAbs (-1) b64.qmin = (v + w).natAbs := by
    unfold inUnits
    rw [hN, Int.natAbs_mul]
    rfl
  have z := own_exact hf e (by omega) (c' := N.natAbs) (q' := -1) (by omega) (by decide) (hu.trans hk.symm)
  rw [hk] at z
  have hp : (0 : Int) < ((2 ^ (min q r - b64.qmin).toNat : Nat) : Int) := by
    have := Nat.two_pow_pos (min q r - b64.qmin).toNat
    omega
  have : signed (sumSign s t S) (v + w).natAbs = v + w := by
    rcases Int.lt_trichotomy S 0 with g | g | g
    · have : v + w < 0 := by rw [← hS]; exact Int.mul_neg_of_neg_of_pos g hp
      have e1 : sumSign s t S = true := by unfold sumSign; rw [if_neg (by omega)]; exact decide_eq_true g
      rw [e1]; unfold signed; rw [if_pos rfl]; omega
    · subst g
      have : v + w = 0 := by rw [← hS, Int.zero_mul]
      rw [this]; unfold signed; split <;> rfl
    · have : 0 < v + w := by rw [← hS]; exact Int.mul_pos g hp
      have e1 : sumSign s t S = false := by unfold sumSign; rw [if_neg (by omega)]; exact decide_eq_false (by omega)
      rw [e1]; unfold signed; rw [if_neg (by decide)]; omega
  rw [this] at z
  exact z
theorem ac1 (c y U M k : Nat) : (c * y * U) * (M * k) = (c * (U * M)) * (y * k) := by ac_rfl
theorem ac2 (x d W M k : Nat) : (x * k) * (d * (W * M)) = (x * d * W) * (M * k) := by ac_rfl
theorem ac3 (x k : Nat) : x * (2 * k) = 2 * x * k := by ac_rfl
theorem ac4 (n b k : Nat) : n * b * k = n * k * b := by ac_rfl
/-- the quotient of two whole numbers, against any half -/
theorem own_div {a b : Int64} (ha1 : -9007199254740992 < a.toInt) (ha2 : a.toInt < 9007199254740992) (hb1 : 0 < b.toInt) (hb2 : b.toInt < 9007199254740992) : ∃ v, ownV (FP.ddiv (FP.l2d a) (FP.l2d b)) v ∧
    ∀ N : Int, -9007199254740992 < N → N < 9007199254740992 → (2 * a.toInt ≤ N * b.toInt → v ≤ N * (ownK : Nat)) ∧ (N * b.toInt ≤ 2 * a.toInt → N * (ownK : Nat) ≤ v) := by
  obtain ⟨s, c, q, a1, a2, a3⟩ := own_l2d ha1 ha2
  obtain ⟨t, d, r, b1, b2, b3⟩ := own_l2d (a := b) (by omega) hb2
  have hK := ownK_pos
  have hnz : b ≠ 0 := fun z => by rw [z] at hb1; revert hb1; decide
  have hfin : Fin64 (FP.ddiv (FP.l2d a) (FP.l2d b)) := (RoadKit.ddiv_mag (Free.Fl.l2d_mag a) (RoadKit.l2d_big hnz) (by decide) (by decide)).fin (by decide)
  have ht : t = false ∧ inUnits d r b64.qmin = b.toInt.natAbs * (2 * ownK) := by
    have p : 0 < b.toInt * ((2 * ownK : Nat) : Int) := Int.mul_pos hb1 (by omega)
    have p2 : (b.toInt.natAbs : Int) = b.toInt := by omega
    cases t
    · refine ⟨rfl, ?_⟩
      have : ((inUnits d r b64.qmin : Nat) : Int) = b.toInt * ((2 * ownK : Nat) : Int) := b3
      rw [← p2, ← Int.natCast_mul] at this
      exact Int.ofNat.inj this
    · exfalso
      have : -((inUnits d r b64.qmin : Nat) : Int) = b.toInt * ((2 * ownK : Nat) : Int) := b3
      omega
  obtain ⟨rfl, hd⟩ := ht
  have hc : inUnits c q b64.qmin = a.toInt.natAbs * (2 * ownK) ∧ (s = decide (a.toInt < 0) ∨ a.toInt = 0) := by
    rcases Int.lt_trichotomy a.toInt 0 with g | g | g
    · have p : a.toInt * ((2 * ownK : Nat) : Int) < 0 := Int.mul_neg_of_neg_of_pos g (by omega)
      have p2 : (a.toInt.natAbs : Int) = -a.toInt := by omega
      cases s
      · have : ((inUnits c q b64.qmin : Nat) : Int) = a.toInt * ((2 * ownK : Nat) : Int) := a3
        omega
      · have : -((inUnits c q b64.qmin : Nat) : Int) = a.toInt * ((2 * ownK : Nat) : Int) := a3
        have h2 : ((inUnits c q b64.qmin : Nat) : Int) = (a.toInt.natAbs : Int) * ((2 * ownK : Nat) : Int) := by rw [p2, Int.neg_mul]; omega
        rw [← Int.natCast_mul] at h2
        exact ⟨Int.ofNat.inj h2, Or.inl (decide_eq_true g).symm⟩
    · rw [g, Int.zero_mul] at a3
      refine ⟨?_, Or.inr g⟩
      rw [g]
      cases s
      · have : ((inUnits c q b64.qmin : Nat) : Int) = 0 := a3
        simp; omega
      · have : -((inUnits c q b64.qmin : Nat) : Int) = 0 := a3
        simp; omega
    · have p : 0 < a.toInt * ((2 * ownK : Nat) : Int) := Int.mul_pos g (by omega)
      have p2 : (a.toInt.natAbs : Int) = a.toInt := by omega
      cases s
      · have : ((inUnits c q b64.qmin : Nat) : Int) = a.toInt * ((2 * ownK : Nat) : Int) := a3
        rw [← p2, ← Int.natCast_mul] at this
        exact ⟨Int.ofNat.inj this, Or.inl (decide_eq_false (by omega)).symm⟩
      · have : -((inUnits c q b64.qmin : Nat) : Int) = a.toInt * ((2 * ownK : Nat) : Int) := a3
        omega
  obtain ⟨hc, hs⟩ := hc
  have hbn : 0 < b.toInt.natAbs := by omega
  have hd0 : d ≠ 0 := fun z => by
    subst z
    unfold inUnits at hd
    rw [Nat.zero_mul] at hd
    have := Nat.mul_pos hbn (show 0 < 2 * ownK by omega)
    omega
  have e : val64 (FP.ddiv (FP.l2d a) (FP.l2d b)) = roundRatio b64 s a.toInt.natAbs b.toInt.natAbs 0 := by
    rw [show FP.ddiv (FP.l2d a) (FP.l2d b) = Core.ddiv (FP.l2d a) (FP.l2d b) from rfl, val64_ddiv, a1, b1]
    unfold quotient
    dsimp only
    rw [if_neg hd0]
    have es : (s != false) = s := by cases s <;> rfl
    rw [es]
    refine roundRatio_congr (by omega) hbn ?_
    -- c * b * 2^(q-r) = a * d * 2^(r-q)
    unfold inUnits at hc hd
    have hp := Nat.two_pow_pos (min q r - b64.qmin).toNat
    have e1 : 2 ^ (q - b64.qmin).toNat = 2 ^ (q - r - 0).toNat * 2 ^ (min q r - b64.qmin).toNat := by rw [← Nat.pow_add]; congr 1; omega
    have e2 : 2 ^ (r - b64.qmin).toNat = 2 ^ (0 - (q - r)).toNat * 2 ^ (min q r - b64.qmin).toNat := by rw [← Nat.pow_add]; congr 1; omega
    rw [e1] at hc
    rw [e2] at hd
    generalize 2 ^ (q - r - 0).toNat = U at *
    generalize 2 ^ (0 - (q - r)).toNat = W at *
    generalize 2 ^ (min q r - b64.qmin).toNat = M at *
    generalize a.toInt.natAbs = x at *
    generalize b.toInt.natAbs = y at *
    -- hc : c * (U * M) = x * (2K); hd : d * (W * M) = y * (2K)
    have h3 : (c * y * U) * (M * (2 * ownK)) = (x * d * W) * (M * (2 * ownK)) := by
      calc (c * y * U) * (M * (2 * ownK)) = (c * (U * M)) * (y * (2 * ownK)) := ac1 _ _ _ _ _
        _ = (x * (2 * ownK)) * (d * (W * M)) := by rw [hc, hd]
        _ = (x * d * W) * (M * (2 * ownK)) := ac2 _ _ _ _ _
    exact Nat.eq_of_mul_eq_mul_right (Nat.mul_pos hp (by omega)) h3
  obtain ⟨c2, q2, g1, g2, g3⟩ := own_rr hfin hbn e
  refine ⟨signed s (inUnits c2 q2 b64.qmin), ⟨s, c2, q2, g1, g3, rfl⟩, fun N hN1 hN2 => ?_⟩
  obtain ⟨l1, l2⟩ := own_round_le hbn g2 (by decide) (c' := N.natAbs) (q' := -1) (by omega) (by decide)
  have u1 : inUnits a.toInt.natAbs 0 b64.qmin = a.toInt.natAbs * (2 * ownK) := by unfold inUnits; rw [two_K]
  have u2 : inUnits N.natAbs (-1) b64.qmin = N.natAbs * ownK := rfl
  rw [u1, u2] at l1 l2
  generalize inUnits c2 q2 b64.qmin = R at *
  -- in naturals: 2|a| vs |N| b
  have l1' : 2 * a.toInt.natAbs ≤ N.natAbs * b.toInt.natAbs → R ≤ N.natAbs * ownK := fun z => l1 (by
    have := Nat.mul_le_mul_right ownK z
    calc a.toInt.natAbs * (2 * ownK) = 2 * a.toInt.natAbs * ownK := ac3 _ _
      _ ≤ N.natAbs * b.toInt.natAbs * ownK := this
      _ = N.natAbs * ownK * b.toInt.natAbs := ac4 _ _ _)
  have l2' : N.natAbs * b.toInt.natAbs ≤ 2 * a.toInt.natAbs → N.natAbs * ownK ≤ R := fun z => l2 (by
    have := Nat.mul_le_mul_right ownK z
    calc N.natAbs * ownK * b.toInt.natAbs = N.natAbs * b.toInt.natAbs * ownK := (ac4 _ _ _).symm
      _ ≤ 2 * a.toInt.natAbs * ownK := this
      _ = a.toInt.natAbs * (2 * ownK) := (ac3 _ _).symm)
  clear l1 l2 u1 u2 hc hd a3 b3 e g1 g2 g3 hfin a1 b1 a2 b2
  have hb' : (b.toInt.natAbs : Int) = b.toInt := by omega
  generalize ownK = K at *
  have hNb : (N * b.toInt).natAbs = N.natAbs * b.toInt.natAbs := Int.natAbs_mul _ _
  have hNK : (N * (K : Int)).natAbs = N.natAbs * K := by rw [Int.natAbs_mul]; rfl
  have sg1 : 0 ≤ N → 0 ≤ N * b.toInt ∧ 0 ≤ N * (K : Int) := fun z => ⟨Int.mul_nonneg z (by omega), Int.mul_nonneg z (by omega)⟩
  have sg2 : N ≤ 0 → N * b.toInt ≤ 0 ∧ N * (K : Int) ≤ 0 := fun z => ⟨Int.mul_nonpos_of_nonpos_of_nonneg z (by omega), Int.mul_nonpos_of_nonpos_of_nonneg z (by omega)⟩
  have sg3 : N < 0 → N * b.toInt < 0 := fun z => Int.mul_neg_of_neg_of_pos z hb1
  have sg4 : 0 < N → 0 < N * b.toInt := fun z => Int.mul_pos z hb1
  rw [← hNb, ← hNK] at l1' l2'
  generalize N * b.toInt = P at *
  generalize N * (K : Int) = Q at *
  have hsv : (signed s R = (R : Int) ∧ 0 ≤ a.toInt) ∨ (signed s R = -(R : Int) ∧ a.toInt ≤ 0) := by
    cases s
    · refine Or.inl ⟨rfl, ?_⟩
      rcases hs with z | z
      · have := of_decide_eq_false z.symm; omega
      · omega
    · refine Or.inr ⟨rfl, ?_⟩
      rcases hs with z | z
      · have := of_decide_eq_true z.symm; omega
      · omega
  rcases hsv with ⟨hv, ha⟩ | ⟨hv, ha⟩
  · rw [hv]
    rcases Int.le_total 0 N with g | g
    · have := sg1 g
      exact ⟨fun z => by have := l1' (by omega); omega, fun z => by have := l2' (by omega); omega⟩
    · have s2 := sg2 g
      refine ⟨fun z => ?_, fun z => by omega⟩
      have : R ≤ Q.natAbs := l1' (by omega)
      rcases Int.lt_or_eq_of_le g with g' | g'
      · have := sg3 g'; omega
      · have := (sg1 (by omega)).2; omega
  · rw [hv]
    rcases Int.le_total N 0 with g | g
    · have := sg2 g
      exact ⟨fun z => by have := l2' (by omega); omega, fun z => by have := l1' (by omega); omega⟩
    · have s2 := sg1 g
      refine ⟨fun z => by omega, fun z => ?_⟩
      have : R ≤ Q.natAbs := l1' (by omega)
      rcases Int.lt_or_eq_of_le g with g' | g'
      · have := sg4 g'; omega
      · have := (sg2 (by omega)).2; omega
end Jvm.OwnFl
namespace Jvm.OwnFl
open Jvm Jvm.ClassFile Jvm.Op Jvm.FP Jvm.FP.Core Jvm.Free.Fl
def ownW : Nat := 2 ^ ((0 : Int) - b64.qmin).toNat
theorem ownW_pos : 0 < ownW := Nat.two_pow_pos _
/-- the double x is n / 2 ^ e, not negative -/
def ownQ (x : UInt64) (n e : Nat) : Prop := ∃ c q, val64 x = .fin false c q ∧ b64.qmin ≤ q ∧ inUnits c q b64.qmin * 2 ^ e = n * ownW
theorem ownQ_eq {x y : UInt64} {n e : Nat} (hx : ownQ x n e) (hy : ownQ y n e) (o : CmpOp) : cmpValue (FP.dcmp x y) o = 0 := by
  obtain ⟨c, q, h1, h2, h3⟩ := hx
  obtain ⟨d, r, g1, g2, g3⟩ := hy
  have : inUnits c q b64.qmin = inUnits d r b64.qmin := Nat.eq_of_mul_eq_mul_right (Nat.two_pow_pos e) (h3.trans g3.symm)
  exact own_eq ⟨false, c, q, h1, h2, rfl⟩ ⟨false, d, r, g1, g2, rfl⟩ (by rw [this]) o
theorem q_round {x : UInt64} {A B n e : Nat} {E : Int} (hf : Fin64 x) (hB : 0 < B) (h : val64 x = roundRatio b64 false A B E) (hv : A * 2 ^ e * 2 ^ (E - 0).toNat = n * B * 2 ^ (0 - E).toNat) (hn : n < 2 ^ 53) (he : e ≤ 1000) : ownQ x n e := by
  have hp := Nat.two_pow_pos e
  rw [roundRatio_congr hB hp hv] at h
  obtain ⟨c, q, h1, h2, h3⟩ := own_rr hf hp h
  have hq : b64.qmin ≤ -(e : Int) := by
    have : b64.qmin = -1074 := by decide
    omega
  obtain ⟨l1, l2⟩ := own_round_le hp h2 (by decide) (c' := n) (q' := -(e : Int)) hn hq
  have u1 : inUnits n 0 b64.qmin = n * ownW := rfl
  have u2 : inUnits n (-(e : Int)) b64.qmin * 2 ^ e = n * ownW := by
    unfold inUnits ownW
    rw [Nat.mul_assoc, ← Nat.pow_add, show (-(e : Int) - b64.qmin).toNat + e = ((0 : Int) - b64.qmin).toNat from by omega]
  rw [u1, u2] at l1 l2
  refine ⟨c, q, h1, h3, ?_⟩
  rw [Nat.le_antisymm (l1 (Nat.le_refl _)) (l2 (Nat.le_refl _)), u2]
theorem q_l2d {a : Int64} {n : Nat} (ha : a.toInt = n) (hn : n < 2 ^ 53) : ownQ (FP.l2d a) n 0 := by
  have e : val64 (FP.l2d a) = roundRatio b64 false n 1 0 := by
    rw [show FP.l2d a = Core.l2d a from rfl, val64_l2d, ha]
    show roundRatio b64 (decide ((n : Int) < 0)) (n : Int).natAbs 1 0 = _
    rw [decide_eq_false (by omega)]; rfl
  exact q_round (l2d_fin a) (by decide) e (by simp) hn (by decide)
theorem pw_mul (q r : Int) (h1 : b64.qmin ≤ q) (h2 : b64.qmin ≤ r) : 2 ^ (q - b64.qmin).toNat * 2 ^ (r - b64.qmin).toNat * 2 ^ (0 - (q + r)).toNat = 2 ^ (q + r - 0).toNat * (ownW * ownW) := by
  unfold ownW
  rw [← Nat.pow_add, ← Nat.pow_add, ← Nat.pow_add, ← Nat.pow_add]
  have : b64.qmin = -1074 := by decide
  exact congrArg (fun z => 2 ^ z) (by omega)
theorem m_ac (c d E1 E2 P W W2 : Nat) : c * d * (E1 * E2) * P * (W * W2) = (c * d * (E1 * E2)) * (P * (W * W2)) := by ac_rfl
theorem m_ac2 (c d E1 E2 Q R N : Nat) : (c * d * (E1 * E2)) * (Q * R * N) = (c * Q * E1) * (d * R * E2) * N := by ac_rfl
theorem m_ac3 (a b W N : Nat) : (a * W) * (b * W) * N = a * b * 1 * N * (W * W) := by simp only [Nat.mul_one]; ac_rfl
theorem q_mul {x y : UInt64} {a b e1 e2 : Nat} (hx : ownQ x a e1) (hy : ownQ y b e2) (hf : Fin64 (FP.dmul x y)) (hn : a * b < 2 ^ 53) (he : e1 + e2 ≤ 1000) : ownQ (FP.dmul x y) (a * b) (e1 + e2) := by
  obtain ⟨c, q, h1, h2, h3⟩ := hx
  obtain ⟨d, r, g1, g2, g3⟩ := hy
  have e : val64 (FP.dmul x y) = roundRatio b64 false (c * d) 1 (q + r) := by
    rw [show FP.dmul x y = Core.dmul x y from rfl, val64_dmul, h1, g1]; rfl
  refine q_round hf (by decide) e ?_ hn he
  have hW := ownW_pos
  apply Nat.eq_of_mul_eq_mul_right (Nat.mul_pos hW hW)
  unfold inUnits at h3 g3
  rw [Nat.pow_add, m_ac c d (2 ^ e1) (2 ^ e2), ← pw_mul q r h2 g2, m_ac2, h3, g3, m_ac3]
theorem d_ac1 (c Q E1 b W E : Nat) : (c * Q * E1) * (b * W) * E = (c * Q * E) * (E1 * b * W) := by ac_rfl
theorem d_ac2 (a W d R E2 E : Nat) : (a * W) * (d * R * E2) * E = (a * E2 * E) * (d * R * W) := by ac_rfl
theorem d_ac3 (n b E1 d R W : Nat) : (n * b * E1) * (d * R * W) = (n * d * R) * (E1 * b * W) := by ac_rfl
theorem d_ac4 (c E U M : Nat) : c * E * U * M = c * (U * M) * E := by ac_rfl
theorem d_ac5 (n d W M : Nat) : n * d * W * M = n * d * (W * M) := by ac_rfl
theorem q_div {x y : UInt64} {a b e1 e2 n e : Nat} (hx : ownQ x a e1) (hy : ownQ y b e2) (hf : Fin64 (FP.ddiv x y)) (hb : 0 < b) (hv : a * 2 ^ e2 * 2 ^ e = n * b * 2 ^ e1) (hn : n < 2 ^ 53) (he : e ≤ 1000) : ownQ (FP.ddiv x y) n e := by
  obtain ⟨c, q, h1, h2, h3⟩ := hx
  obtain ⟨d, r, g1, g2, g3⟩ := hy
  have hW := ownW_pos
  have hd0 : d ≠ 0 := fun z => by
    subst z
    unfold inUnits at g3
    rw [Nat.zero_mul, Nat.zero_mul] at g3
    have := Nat.mul_pos hb hW
    omega
  have ev : val64 (FP.ddiv x y) = roundRatio b64 false c d (q - r) := by
    rw [show FP.ddiv x y = Core.ddiv x y from rfl, val64_ddiv, h1, g1]
    unfold quotient
    dsimp only
    rw [if_neg hd0]; rfl
  refine q_round hf (Nat.pos_of_ne_zero hd0) ev ?_ hn he
  unfold inUnits at h3 g3
  have k1 : (c * 2 ^ (q - b64.qmin).toNat * 2 ^ e) * (2 ^ e1 * b * ownW) = (n * d * 2 ^ (r - b64.qmin).toNat) * (2 ^ e1 * b * ownW) := by
    rw [← d_ac1, ← g3, h3, d_ac2, hv, d_ac3]
  have k2 := Nat.eq_of_mul_eq_mul_right (Nat.mul_pos (Nat.mul_pos (Nat.two_pow_pos e1) hb) hW) k1
  have e1' : 2 ^ (q - b64.qmin).toNat = 2 ^ (q - r - 0).toNat * 2 ^ (min q r - b64.qmin).toNat := by rw [← Nat.pow_add]; exact congrArg (fun z => 2 ^ z) (by omega)
  have e2' : 2 ^ (r - b64.qmin).toNat = 2 ^ (0 - (q - r)).toNat * 2 ^ (min q r - b64.qmin).toNat := by rw [← Nat.pow_add]; exact congrArg (fun z => 2 ^ z) (by omega)
  rw [e1', e2'] at k2
  apply Nat.eq_of_mul_eq_mul_right (Nat.two_pow_pos (min q r - b64.qmin).toNat)
  rw [d_ac4, d_ac5]
  exact k2
theorem a_ac1 (S E P W : Nat) : S * E * P * W = S * E * (P * W) := by ac_rfl
theorem a_ac2 (S M N E : Nat) : S * E * (M * N) = (S * M) * E * N := by ac_rfl
theorem a_ac3 (n W N : Nat) : n * W * N = n * 1 * N * W := by simp only [Nat.mul_one]; ac_rfl
theorem q_add {x y : UInt64} {a b e : Nat} (hx : ownQ x a 0) (hy : ownQ y b e) (hf : Fin64 (FP.dadd x y)) (hn : a * 2 ^ e + b < 2 ^ 53) (he : e ≤ 1000) : ownQ (FP.dadd x y) (a * 2 ^ e + b) e := by
  obtain ⟨c, q, h1, h2, h3⟩ := hx
  obtain ⟨d, r, g1, g2, g3⟩ := hy
  have hW := ownW_pos
  have m1 := inUnits_move c (q := q) (r := min q r) (e := b64.qmin) (by omega) (by omega)
  have m2 := inUnits_move d (q := r) (r := min q r) (e := b64.qmin) (by omega) (by omega)
  have ev : val64 (FP.dadd x y) = roundRatio b64 false (inUnits c q (min q r) + inUnits d r (min q r)) 1 (min q r) := by
    rw [show FP.dadd x y = Core.dadd x y from rfl, val64_dadd, h1, g1]
    show roundRatio b64 (sumSign false false (sumUnits false c q false d r (min q r))) (sumUnits false c q false d r (min q r)).natAbs 1 (min q r) = _
    have es : sumUnits false c q false d r (min q r) = ((inUnits c q (min q r) + inUnits d r (min q r) : Nat) : Int) := by
      unfold sumUnits signed
      rw [if_neg (by decide), if_neg (by decide), Int.natCast_add]
    rw [es]
    have sg : sumSign false false ((inUnits c q (min q r) + inUnits d r (min q r) : Nat) : Int) = false := by
      unfold sumSign
      split
      · rfl
      · exact decide_eq_false (by omega)
    rw [sg]; rfl
  refine q_round hf (by decide) ev ?_ hn he
  rw [m1, Nat.pow_zero, Nat.mul_one] at h3
  rw [m2] at g3
  generalize inUnits c q (min q r) = C at *
  generalize inUnits d r (min q r) = D at *
  have k : (C + D) * 2 ^ (min q r - b64.qmin).toNat * 2 ^ e = (a * 2 ^ e + b) * ownW := by
    rw [Nat.add_mul, Nat.add_mul, h3, g3, Nat.add_mul, Nat.mul_assoc a ownW, Nat.mul_comm ownW, ← Nat.mul_assoc a]
  have pw : 2 ^ (min q r - 0).toNat * ownW = 2 ^ (min q r - b64.qmin).toNat * 2 ^ (0 - min q r).toNat := by
    unfold ownW
    rw [← Nat.pow_add, ← Nat.pow_add]
    have : b64.qmin = -1074 := by decide
    exact congrArg (fun z => 2 ^ z) (by omega)
  apply Nat.eq_of_mul_eq_mul_right hW
  rw [a_ac1, pw, a_ac2, k, a_ac3]
end Jvm.OwnFl
namespace Jvm.Pilot.@@N@@
open Jvm Jvm.ClassFile Sem Op Lib Jvm.Free Jvm.Stand Jvm.LawKit Jvm.RoadKit Bundle Jvm.Pilot.@@N@@.Jvm.D
open Jvm.FP Jvm.Free.Fl Jvm.OwnFl
theorem own_ofNat (i : Nat) (h : i < 2 ^ 31) : i.toInt32.toInt = i := len_toInt h
theorem own_msk (x : Int32) (m : Int32) (k : Nat) (hk : k ≤ 31) (hm : m.toBitVec.toNat = 2 ^ k - 1) : ∃ n : Nat, n < 2 ^ k ∧ x &&& m = n.toInt32 := by
  have e := c_mask x m k hk hm
  have b1 := Int.emod_nonneg x.toInt (show ((2 ^ k : Nat) : Int) ≠ 0 from by have := Nat.two_pow_pos k; omega)
  have b2 := Int.emod_lt_of_pos x.toInt (show (0 : Int) < ((2 ^ k : Nat) : Int) from by have := Nat.two_pow_pos k; omega)
  have b3 : 2 ^ k ≤ 2 ^ 31 := Nat.pow_le_pow_right (by decide) hk
  refine ⟨(x.toInt % ((2 ^ k : Nat) : Int)).toNat, by omega, ?_⟩
  apply Int32.toInt_inj.mp
  rw [e, own_ofNat _ (by omega)]
  omega
theorem own_irem (x y : Int32) : x - (x / y) * y = x % y := Jvm.irem_eq_mod x y
theorem own_remN (z y : Nat) (hz : z < 2 ^ 31) (hy : 0 < y) (hy2 : y < 2 ^ 31) : z.toInt32 - (z.toInt32 / y.toInt32) * y.toInt32 = (z % y).toInt32 := by
  rw [own_irem]
  apply Int32.toInt_inj.mp
  have h0 := own_ofNat z hz
  have hz' := (c_irem z.toInt32 y.toInt32 y (own_ofNat y hy2)).1 (by omega)
  have := Nat.mod_lt z hy
  rw [hz', h0, own_ofNat _ (by omega)]
  omega
theorem own_addN (x y : Nat) : x.toInt32 + y.toInt32 = (x + y).toInt32 := (Int32.ofNat_add x y).symm
theorem own_l (k : Nat) (h : k < 2 ^ 31) : k.toInt32.toInt64.toInt = k := by rw [Int32.toInt_toInt64, own_ofNat k h]
theorem own_mulL {x y : Int64} {n m : Nat} (hx : x.toInt = n) (hy : y.toInt = m) (hb : n * m < 2 ^ 62) : (x * y).toInt = ((n * m : Nat) : Int) := by
  have e := c_lmul x y
  have b := rng64 (x * y)
  rw [hx, hy, ← Int.natCast_mul] at e
  omega
theorem own_addL {x y : Int64} {n m : Nat} (hx : x.toInt = n) (hy : y.toInt = m) (hb : n + m < 2 ^ 62) : (x + y).toInt = ((n + m : Nat) : Int) := by
  have e := c_ladd x y
  have b := rng64 (x + y)
  rw [hx, hy] at e
  omega
theorem own_subL {x y : Int64} {n m : Nat} (hx : x.toInt = n) (hy : y.toInt = m) (hb : n < 2 ^ 62) (hm : m ≤ n) : (x - y).toInt = ((n - m : Nat) : Int) := by
  have e := c_lsub x y
  have b := rng64 (x - y)
  rw [hx, hy] at e
  omega
theorem own_shlL {x : Int64} {n k : Nat} (hx : x.toInt = n) (hk : k < 32) (hb : n * 2 ^ k < 2 ^ 62) : (x <<< (k.toInt32 &&& 0x3f).toInt64).toInt = ((n * 2 ^ k : Nat) : Int) := by
  have q : k.toInt32.toBitVec.toNat % 64 = k := by
    show (BitVec.ofNat 32 k).toNat % 64 = k
    rw [BitVec.toNat_ofNat]; omega
  have e := c_lshl x k.toInt32 k q
  have b := rng64 (x <<< (k.toInt32 &&& 0x3f).toInt64)
  rw [hx, ← Int.natCast_mul] at e
  omega
theorem own_oneL : (1 : Int64).toInt = ((1 : Nat) : Int) := by decide
theorem own_twoL : (2 : Int64).toInt = ((2 : Nat) : Int) := by decide
theorem own_remL {x y : Int64} {n m : Nat} (hx : x.toInt = n) (hy : y.toInt = m) (hm : 0 < m) : (x - (x / y) * y).toInt = ((n % m : Nat) : Int) := by
  have e := (c_lrem x y m hy).1 (by omega)
  rw [e, hx]; rfl
theorem own_nzL {y : Int64} {m : Nat} (hy : y.toInt = m) (hm : 0 < m) : y ≠ 0 := fun z => by
  subst z
  have : (0 : Int64).toInt = 0 := by decide
  omega
/-- the bounds, all in naturals -/
def ownH (TF od fp k j MU : Nat) : Prop := TF < 65536 ∧ 1 ≤ od ∧ od ≤ 127 ∧ fp < 4096 ∧ k ≤ 7 ∧ 1 ≤ j ∧ j ≤ 10 ∧ 1 ≤ MU ∧ MU < 2 ^ j
def own_got (tf l F T mu : Int64) : UInt64 := FP.dmul (FP.ddiv (FP.dadd (FP.l2d tf) (FP.ddiv (FP.dmul (FP.l2d mu) (FP.l2d F)) (FP.l2d T))) (FP.dadd (FP.l2d l) (FP.l2d mu))) (FP.l2d mu)
theorem own_acA (m o f : Nat) (P : Nat) : m * (o * f) * 2 ^ 0 * P = m * f * (o * P) * 2 ^ (0 + 0) := by simp only [Nat.pow_zero, Nat.mul_one]; ac_rfl
theorem own_acB (n k j : Nat) : n * 2 ^ 0 * 2 ^ (k + j) = n * 2 ^ j * 2 ^ k := by rw [Nat.pow_add]; simp only [Nat.pow_zero, Nat.mul_one]; ac_rfl
theorem own_acC (n e : Nat) : n * 2 ^ 0 * 2 ^ e = n * 2 ^ e * 2 ^ 0 := by simp only [Nat.pow_zero, Nat.mul_one]
theorem own_h3 {tf l F T mu nm dn : Int64} {TF od fp k j MU : Nat} (hH : ownH TF od fp k j MU) (h1 : tf.toInt = TF) (h2 : T.toInt = ((od * 2 ^ k : Nat) : Int)) (h3 : F.toInt = ((od * fp : Nat) : Int)) (h4 : mu.toInt = MU) (h5 : l.toInt = ((2 ^ j - MU : Nat) : Int)) (h6 : nm.toInt = (((TF * 2 ^ k + MU * fp) * MU : Nat) : Int)) (h7 : dn.toInt = ((2 ^ (k + j) : Nat) : Int)) :
    NoNaN64 (FP.dmul (FP.l2d mu) (FP.l2d F)) ∧ NoNaN64 (FP.ddiv (FP.dmul (FP.l2d mu) (FP.l2d F)) (FP.l2d T)) ∧ NoNaN64 (FP.dadd (FP.l2d tf) (FP.ddiv (FP.dmul (FP.l2d mu) (FP.l2d F)) (FP.l2d T))) ∧ NoNaN64 (FP.dadd (FP.l2d l) (FP.l2d mu)) ∧
    NoNaN64 (FP.ddiv (FP.dadd (FP.l2d tf) (FP.ddiv (FP.dmul (FP.l2d mu) (FP.l2d F)) (FP.l2d T))) (FP.dadd (FP.l2d l) (FP.l2d mu))) ∧ NoNaN64 (own_got tf l F T mu) ∧ NoNaN64 (FP.ddiv (FP.l2d nm) (FP.l2d dn)) ∧ cmpValue (FP.dcmp (own_got tf l F T mu) (FP.ddiv (FP.l2d nm) (FP.l2d dn))) .l = 0 := by
  obtain ⟨b1, b2, b3, b4, b5, b6, b7, b8, b9⟩ := hH
  have hj : 2 ^ j ≤ 2 ^ 10 := Nat.pow_le_pow_right (by decide) b7
  have hj2 : 2 ^ 1 ≤ 2 ^ j := Nat.pow_le_pow_right (by decide) b6
  have hk : 2 ^ k ≤ 2 ^ 7 := Nat.pow_le_pow_right (by decide) b5
  have hk0 := Nat.two_pow_pos k
  have c1 : od * fp ≤ 127 * 4095 := Nat.mul_le_mul b3 (by omega)
  have c2 : MU * (od * fp) ≤ 1023 * (127 * 4095) := Nat.mul_le_mul (by omega) c1
  have c3 : od * 2 ^ k ≤ 127 * 2 ^ 7 := Nat.mul_le_mul b3 hk
  have c4 : 0 < od * 2 ^ k := Nat.mul_pos b2 hk0
  have c5 : MU * fp ≤ 1023 * 4095 := Nat.mul_le_mul (by omega) (by omega)
  have c6 : TF * 2 ^ k ≤ 65535 * 2 ^ 7 := Nat.mul_le_mul (by omega) hk
  have c7 : (TF * 2 ^ k + MU * fp) * MU ≤ (65535 * 2 ^ 7 + 1023 * 4095) * 1023 := Nat.mul_le_mul (by omega) (by omega)
  have c8 : 2 ^ (k + j) ≤ 2 ^ 17 := Nat.pow_le_pow_right (by decide) (by omega)
  have c9 := Nat.two_pow_pos (k + j)
  have nT : T ≠ 0 := own_nzL h2 c4
  have nD : dn ≠ 0 := own_nzL h7 c9
  have g1 := dmul_mag (l2d_mag mu) (l2d_mag F) (by decide) (by decide)
  have g2 := ddiv_mag g1 (l2d_big nT) (by decide) (by decide)
  have g3 := dadd_mag ((l2d_mag tf).mono (show 1088 ≤ _ by decide)) g2 (by decide)
  have hs : FP.dadd (FP.l2d l) (FP.l2d mu) = FP.l2d (l + mu) := dadd_w (by unfold B53; omega) (by unfold B53; omega)
  have hsv : (l + mu).toInt = ((2 ^ j : Nat) : Int) := by
    have := own_addL h5 h4 (by omega)
    rw [this]; omega
  have nS : l + mu ≠ 0 := own_nzL hsv (by omega)
  unfold own_got
  rw [hs]
  have g4 := ddiv_mag g3 (l2d_big nS) (by decide) (by decide)
  have g5 := dmul_mag g4 (l2d_mag mu) (by decide) (by decide)
  have g6 := ddiv_mag (l2d_mag nm) (l2d_big nD) (by decide) (by decide)
  have q1 := q_mul (q_l2d h4 (by omega)) (q_l2d h3 (by omega)) (g1.fin (by decide)) (by omega) (by decide)
  have q2 := q_div (n := MU * fp) (e := k) q1 (q_l2d h2 (by omega)) (g2.fin (by decide)) c4 (own_acA MU od fp (2 ^ k)) (by omega) (by omega)
  have q3 := q_add (q_l2d h1 (by omega)) q2 (g3.fin (by decide)) (by omega) (by omega)
  have q4 := q_div (n := TF * 2 ^ k + MU * fp) (e := k + j) q3 (q_l2d hsv (by omega)) (g4.fin (by decide)) (by omega) (own_acB _ k j) (by omega) (by omega)
  have q5 := q_mul q4 (q_l2d h4 (by omega)) (g5.fin (by decide)) (by omega) (by omega)
  have q6 := q_div (n := (TF * 2 ^ k + MU * fp) * MU) (e := k + j) (q_l2d h6 (by omega)) (q_l2d h7 (by omega)) (g6.fin (by decide)) c9 (own_acC _ (k + j)) (by omega) (by omega)
  exact ⟨(g1.fin (by decide)).noNaN, (g2.fin (by decide)).noNaN, (g3.fin (by decide)).noNaN, (l2d_fin _).noNaN, (g4.fin (by decide)).noNaN, (g5.fin (by decide)).noNaN, (g6.fin (by decide)).noNaN, ownQ_eq q5 q6 _⟩
theorem d1_0 : decode prog_41_method_4_code 0 = .ok (.dload_n 0, 1) := by decide +kernel
theorem d1_1 : decode prog_41_method_4_code 1 = .ok (.dload 8, 2) := by decide +kernel
theorem d1_3 : decode prog_41_method_4_code 3 = .ok (.dload 4, 2) := by decide +kernel
theorem d1_5 : decode prog_41_method_4_code 5 = .ok (.dmul, 1) := by decide +kernel
theorem d1_6 : decode prog_41_method_4_code 6 = .ok (.dload 6, 2) := by decide +kernel
theorem d1_8 : decode prog_41_method_4_code 8 = .ok (.ddiv, 1) := by decide +kernel
theorem d1_9 : decode prog_41_method_4_code 9 = .ok (.dadd, 1) := by decide +kernel
theorem d1_10 : decode prog_41_method_4_code 10 = .ok (.dload_n 2, 1) := by decide +kernel
theorem d1_11 : decode prog_41_method_4_code 11 = .ok (.dload 8, 2) := by decide +kernel
theorem d1_13 : decode prog_41_method_4_code 13 = .ok (.dadd, 1) := by decide +kernel
theorem d1_14 : decode prog_41_method_4_code 14 = .ok (.ddiv, 1) := by decide +kernel
theorem d1_15 : decode prog_41_method_4_code 15 = .ok (.dload 8, 2) := by decide +kernel
theorem d1_17 : decode prog_41_method_4_code 17 = .ok (.dmul, 1) := by decide +kernel
theorem d1_18 : decode prog_41_method_4_code 18 = .ok (.dreturn, 1) := by decide +kernel
theorem pn_0 : plainName "com/example/iota_ranker/iotaranker/dfr/SecondNormalisations" = true := by first | (simp [plainName, overriddenIn]; done) | decide +kernel
theorem ef_1 (m : MethodId) (x0 : UInt64) (x1 : UInt64) (x2 : UInt64) (x3 : UInt64) (x4 : UInt64) : entryFrame m #[(.double x0), (.double x1), (.double x2), (.double x3), (.double x4)] 10 = mkF m 0 #[.val (.double x0), .second, .val (.double x1), .second, .val (.double x2), .second, .val (.double x3), .second, .val (.double x4), .second] [] := by first | (simp [entryFrame, mkF, argsToLocals, Value.category]; done) | rfl
def Q1 (Z : State) (tf l' F T mu : Int64) (h0 : Heap) (n0 : Nat) (v : Option Value) (h : Heap) (L : List Loc) : Prop := v = some (.double (own_got tf l' F T mu)) ∧ Fr n0 L ∧ h = h0
set_option maxRecDepth 65536 in
set_option maxHeartbeats 40000000 in
theorem rm1 (l : Launch) (Z : State) (a0 : Array Value) (hw : ∀ d ∈ tables_1, d.before a0 Z = true) (ws : List Jvm.Cond) (tf l' F T mu : Int64) (h0 : Heap) (n0 : Nat) (Z0 : n0 ≤ h0.size) (n1 : Jvm.Free.Fl.NoNaN64 (FP.dmul (FP.l2d mu) (FP.l2d F))) (n2 : Jvm.Free.Fl.NoNaN64 (FP.ddiv (FP.dmul (FP.l2d mu) (FP.l2d F)) (FP.l2d T))) (n3 : Jvm.Free.Fl.NoNaN64 (FP.dadd (FP.l2d tf) (FP.ddiv (FP.dmul (FP.l2d mu) (FP.l2d F)) (FP.l2d T)))) (n4 : Jvm.Free.Fl.NoNaN64 (FP.dadd (FP.l2d l') (FP.l2d mu))) (n5 : Jvm.Free.Fl.NoNaN64 (FP.ddiv (FP.dadd (FP.l2d tf) (FP.ddiv (FP.dmul (FP.l2d mu) (FP.l2d F)) (FP.l2d T))) (FP.dadd (FP.l2d l') (FP.l2d mu)))) (n6 : Jvm.Free.Fl.NoNaN64 (own_got tf l' F T mu)) :
    MetFree l (⟨"com/example/iota_ranker/iotaranker/dfr/SecondNormalisations", "h3", "(DDDDD)D"⟩ : MethodName) (head1 (Jvm.Cond.code (⟨"com/example/iota_ranker/iotaranker/dfr/SecondNormalisations", "h3", "(DDDDD)D"⟩ : MethodName) prog_41_method_4_code 10 (some .double) :: ws) ({ frames := 0, cells := 0, slots := 0, locals := 0 } : Room)) (fun aa_ U => aa_ = #[(.double (FP.l2d tf)), (.double (FP.l2d l')), (.double (FP.l2d F)), (.double (FP.l2d T)), (.double (FP.l2d mu))] ∧ Z.Warmed39 U.vm ∧ U.heap = h0) (fun _ _ _ _ _ => True) (fun _ U o U' => ∃ v L, o = .returned v ∧ Q1 Z tf l' F T mu h0 n0 v U'.heap L ∧ FrameEnd U o U' L ({ frames := 0, cells := 0, slots := 0, locals := 0 } : Room).cells ({ frames := 0, cells := 0, slots := 0, locals := 0 } : Room).slots) := by
  refine own_met (Q := fun v h L => Q1 Z tf l' F T mu h0 n0 v h L) (plainFor_of_name pn_0) ?_
  intro p e s m below meth c s₁ hx hby hml hret hlk hown hnm hZ X0 e0
  have N0 := Fr.nil n0
  rw [ef_1 m (FP.l2d tf) (FP.l2d l') (FP.l2d F) (FP.l2d T) (FP.l2d mu)]
  show OwnG p e below s _ _ _ (s₁.setTop (mkF m 0 #[.val (.double (FP.l2d tf)), .second, .val (.double (FP.l2d l')), .second, .val (.double (FP.l2d F)), .second, .val (.double (FP.l2d T)), .second, .val (.double (FP.l2d mu)), .second] []))
  refine own_by (fun t kk_ => XS.dloadN X0.here hx rfl (hb hby d1_0) rfl  kk_) ?_
  show OwnG p e below s _ _ _ (s₁.setTop (mkF m 1 #[.val (.double (FP.l2d tf)), .second, .val (.double (FP.l2d l')), .second, .val (.double (FP.l2d F)), .second, .val (.double (FP.l2d T)), .second, .val (.double (FP.l2d mu)), .second] [(.double (FP.l2d tf))]))
  refine own_by (fun t kk_ => XS.dload X0.here hx rfl (hb hby d1_1) rfl  kk_) ?_
  show OwnG p e below s _ _ _ (s₁.setTop (mkF m 3 #[.val (.double (FP.l2d tf)), .second, .val (.double (FP.l2d l')), .second, .val (.double (FP.l2d F)), .second, .val (.double (FP.l2d T)), .second, .val (.double (FP.l2d mu)), .second] [(.double (FP.l2d mu)), (.double (FP.l2d tf))]))
  refine own_by (fun t kk_ => XS.dload X0.here hx rfl (hb hby d1_3) rfl  kk_) ?_
  show OwnG p e below s _ _ _ (s₁.setTop (mkF m 5 #[.val (.double (FP.l2d tf)), .second, .val (.double (FP.l2d l')), .second, .val (.double (FP.l2d F)), .second, .val (.double (FP.l2d T)), .second, .val (.double (FP.l2d mu)), .second] [(.double (FP.l2d F)), (.double (FP.l2d mu)), (.double (FP.l2d tf))]))
  refine own_by (fun t kk_ => XS.dmulS X0.here hx rfl (hb hby d1_5) rfl n1 rfl kk_) ?_
  show OwnG p e below s _ _ _ (s₁.setTop (mkF m 6 #[.val (.double (FP.l2d tf)), .second, .val (.double (FP.l2d l')), .second, .val (.double (FP.l2d F)), .second, .val (.double (FP.l2d T)), .second, .val (.double (FP.l2d mu)), .second] [(.double (FP.dmul (FP.l2d mu) (FP.l2d F))), (.double (FP.l2d tf))]))
  refine own_by (fun t kk_ => XS.dload X0.here hx rfl (hb hby d1_6) rfl  kk_) ?_
  show OwnG p e below s _ _ _ (s₁.setTop (mkF m 8 #[.val (.double (FP.l2d tf)), .second, .val (.double (FP.l2d l')), .second, .val (.double (FP.l2d F)), .second, .val (.double (FP.l2d T)), .second, .val (.double (FP.l2d mu)), .second] [(.double (FP.l2d T)), (.double (FP.dmul (FP.l2d mu) (FP.l2d F))), (.double (FP.l2d tf))]))
  refine own_by (fun t kk_ => XS.ddivS X0.here hx rfl (hb hby d1_8) rfl n2 rfl kk_) ?_
  show OwnG p e below s _ _ _ (s₁.setTop (mkF m 9 #[.val (.double (FP.l2d tf)), .second, .val (.double (FP.l2d l')), .second, .val (.double (FP.l2d F)), .second, .val (.double (FP.l2d T)), .second, .val (.double (FP.l2d mu)), .second] [(.double (FP.ddiv (FP.dmul (FP.l2d mu) (FP.l2d F)) (FP.l2d T))), (.double (FP.l2d tf))]))
  refine own_by (fun t kk_ => XS.daddS X0.here hx rfl (hb hby d1_9) rfl n3 rfl kk_) ?_
  show OwnG p e below s _ _ _ (s₁.setTop (mkF m 10 #[.val (.double (FP.l2d tf)), .second, .val (.double (FP.l2d l')), .second, .val (.double (FP.l2d F)), .second, .val (.double (FP.l2d T)), .second, .val (.double (FP.l2d mu)), .second] [(.double (FP.dadd (FP.l2d tf) (FP.ddiv (FP.dmul (FP.l2d mu) (FP.l2d F)) (FP.l2d T))))]))
  refine own_by (fun t kk_ => XS.dloadN X0.here hx rfl (hb hby d1_10) rfl  kk_) ?_
  show OwnG p e below s _ _ _ (s₁.setTop (mkF m 11 #[.val (.double (FP.l2d tf)), .second, .val (.double (FP.l2d l')), .second, .val (.double (FP.l2d F)), .second, .val (.double (FP.l2d T)), .second, .val (.double (FP.l2d mu)), .second] [(.double (FP.l2d l')), (.double (FP.dadd (FP.l2d tf) (FP.ddiv (FP.dmul (FP.l2d mu) (FP.l2d F)) (FP.l2d T))))]))
  refine own_by (fun t kk_ => XS.dload X0.here hx rfl (hb hby d1_11) rfl  kk_) ?_
  show OwnG p e below s _ _ _ (s₁.setTop (mkF m 13 #[.val (.double (FP.l2d tf)), .second, .val (.double (FP.l2d l')), .second, .val (.double (FP.l2d F)), .second, .val (.double (FP.l2d T)), .second, .val (.double (FP.l2d mu)), .second] [(.double (FP.l2d mu)), (.double (FP.l2d l')), (.double (FP.dadd (FP.l2d tf) (FP.ddiv (FP.dmul (FP.l2d mu) (FP.l2d F)) (FP.l2d T))))]))
  refine own_by (fun t kk_ => XS.daddS X0.here hx rfl (hb hby d1_13) rfl n4 rfl kk_) ?_
  show OwnG p e below s _ _ _ (s₁.setTop (mkF m 14 #[.val (.double (FP.l2d tf)), .second, .val (.double (FP.l2d l')), .second, .val (.double (FP.l2d F)), .second, .val (.double (FP.l2d T)), .second, .val (.double (FP.l2d mu)), .second] [(.double (FP.dadd (FP.l2d l') (FP.l2d mu))), (.double (FP.dadd (FP.l2d tf) (FP.ddiv (FP.dmul (FP.l2d mu) (FP.l2d F)) (FP.l2d T))))]))
  refine own_by (fun t kk_ => XS.ddivS X0.here hx rfl (hb hby d1_14) rfl n5 rfl kk_) ?_
  show OwnG p e below s _ _ _ (s₁.setTop (mkF m 15 #[.val (.double (FP.l2d tf)), .second, .val (.double (FP.l2d l')), .second, .val (.double (FP.l2d F)), .second, .val (.double (FP.l2d T)), .second, .val (.double (FP.l2d mu)), .second] [(.double (FP.ddiv (FP.dadd (FP.l2d tf) (FP.ddiv (FP.dmul (FP.l2d mu) (FP.l2d F)) (FP.l2d T))) (FP.dadd (FP.l2d l') (FP.l2d mu))))]))
  refine own_by (fun t kk_ => XS.dload X0.here hx rfl (hb hby d1_15) rfl  kk_) ?_
  show OwnG p e below s _ _ _ (s₁.setTop (mkF m 17 #[.val (.double (FP.l2d tf)), .second, .val (.double (FP.l2d l')), .second, .val (.double (FP.l2d F)), .second, .val (.double (FP.l2d T)), .second, .val (.double (FP.l2d mu)), .second] [(.double (FP.l2d mu)), (.double (FP.ddiv (FP.dadd (FP.l2d tf) (FP.ddiv (FP.dmul (FP.l2d mu) (FP.l2d F)) (FP.l2d T))) (FP.dadd (FP.l2d l') (FP.l2d mu))))]))
  refine own_by (fun t kk_ => XS.dmulS X0.here hx rfl (hb hby d1_17) rfl n6 rfl kk_) ?_
  show OwnG p e below s _ _ _ (s₁.setTop (mkF m 18 #[.val (.double (FP.l2d tf)), .second, .val (.double (FP.l2d l')), .second, .val (.double (FP.l2d F)), .second, .val (.double (FP.l2d T)), .second, .val (.double (FP.l2d mu)), .second] [(.double (FP.dmul (FP.ddiv (FP.dadd (FP.l2d tf) (FP.ddiv (FP.dmul (FP.l2d mu) (FP.l2d F)) (FP.l2d T))) (FP.dadd (FP.l2d l') (FP.l2d mu))) (FP.l2d mu)))]))
  exact own_outD X0 hx hret hlk (hb hby d1_18) (⟨rfl, N0, e0⟩) (by decide) (by decide)
theorem own_ofI {n : Nat} (h : n < 2 ^ 62) : (Int64.ofInt (n : Int)).toInt = (n : Int) := by
  rw [Int64.toInt_ofInt]
  have : Int64.size = 18446744073709551616 := rfl
  rw [this]
  exact Int.bmod_eq_of_le_mul_two (by omega) (by omega)
theorem pn_1 : plainName "com/example/iota_ranker/iotaranker/dfr/SecondNormalisationsH3PinLaw" = true := by first | (simp [plainName, overriddenIn]; done) | decide +kernel
theorem pd_0 : parseMethodDescriptor "(DDDDD)D" = some ⟨[.double, .double, .double, .double, .double], some .double⟩ := by decide +kernel
theorem ef_0 (m : MethodId) (x0 : Int32) (x1 : Int32) (x2 : Int32) (x3 : Int32) (x4 : Int32) : entryFrame m #[(.int x0), (.int x1), (.int x2), (.int x3), (.int x4)] maxLocals = mkF m 0 #[.val (.int x0), .val (.int x1), .val (.int x2), .val (.int x3), .val (.int x4), .unset, .unset, .unset, .unset, .unset, .unset, .unset, .unset, .unset, .unset, .unset, .unset, .unset, .unset, .unset, .unset, .unset, .unset, .unset, .unset, .unset, .unset, .unset, .unset] [] := by first | (simp [entryFrame, mkF, argsToLocals, Value.category, maxLocals]; done) | rfl
def Q0 (Z : State) (a b c0 d e' : Int32) (h0 : Heap) (n0 : Nat) (v : Option Value) (h : Heap) (L : List Loc) : Prop := v = some (.int (1 : Int32)) ∧ Fr n0 L
set_option maxRecDepth 65536 in
set_option maxHeartbeats 40000000 in
theorem rm0 (l : Launch) (Z : State) (a0 : Array Value) (hw : ∀ d ∈ tables_1, d.before a0 Z = true) (ws : List Jvm.Cond) (a b c0 d e' : Int32) (h0 : Heap) (n0 : Nat) (Z0 : n0 ≤ h0.size) :
    MetFree l x (head1 (Jvm.Cond.code x code maxLocals ret :: ws) room_1) (fun aa_ U => aa_ = #[(.int a), (.int b), (.int c0), (.int d), (.int e')] ∧ Z.Warmed39 U.vm ∧ U.heap = h0) (fun _ _ _ _ _ => True) (fun _ U o U' => ∃ v L, o = .returned v ∧ Q0 Z a b c0 d e' h0 n0 v U'.heap L ∧ FrameEnd U o U' L room_1.cells room_1.slots) := by
  refine own_met (Q := fun v h L => Q0 Z a b c0 d e' h0 n0 v h L) (plainFor_of_name pn_1) ?_
  intro p e s m below meth c s₁ hx hby hml hret hlk hown hnm hZ X0 e0
  have N0 := Fr.nil n0
  rw [ef_0 m a b c0 d e']
  show OwnG p e below s _ _ _ (s₁.setTop (mkF m 0 #[.val (.int a), .val (.int b), .val (.int c0), .val (.int d), .val (.int e'), .unset, .unset, .unset, .unset, .unset, .unset, .unset, .unset, .unset, .unset, .unset, .unset, .unset, .unset, .unset, .unset, .unset, .unset, .unset, .unset, .unset, .unset, .unset, .unset] []))
  refine own_by (fun t kk_ => XS.iloadN X0.here hx rfl (hb hby at_0) rfl  kk_) ?_
  show OwnG p e below s _ _ _ (s₁.setTop (mkF m 1 #[.val (.int a), .val (.int b), .val (.int c0), .val (.int d), .val (.int e'), .unset, .unset, .unset, .unset, .unset, .unset, .unset, .unset, .unset, .unset, .unset, .unset, .unset, .unset, .unset, .unset, .unset, .unset, .unset, .unset, .unset, .unset, .unset, .unset] [(.int a)]))
  refine own_by (fun t kk_ => X0.ldcInt hx hown (mvT hZ (hw _ (List.mem_of_getElem? (i := 0) rfl))) (g := (mkF m 1 #[.val (.int a), .val (.int b), .val (.int c0), .val (.int d), .val (.int e'), .unset, .unset, .unset, .unset, .unset, .unset, .unset, .unset, .unset, .unset, .unset, .unset, .unset, .unset, .unset, .unset, .unset, .unset, .unset, .unset, .unset, .unset, .unset, .unset] [(.int a)])) rfl (hb hby at_1) _ kk_) ?_
  show OwnG p e below s _ _ _ (s₁.setTop (mkF m 3 #[.val (.int a), .val (.int b), .val (.int c0), .val (.int d), .val (.int e'), .unset, .unset, .unset, .unset, .unset, .unset, .unset, .unset, .unset, .unset, .unset, .unset, .unset, .unset, .unset, .unset, .unset, .unset, .unset, .unset, .unset, .unset, .unset, .unset] [(.int (65535 : Int32)), (.int a)]))
  refine own_by (fun t kk_ => XS.iand X0.here hx rfl (hb hby at_3) rfl kk_) ?_
  show OwnG p e below s _ _ _ (s₁.setTop (mkF m 4 #[.val (.int a), .val (.int b), .val (.int c0), .val (.int d), .val (.int e'), .unset, .unset, .unset, .unset, .unset, .unset, .unset, .unset, .unset, .unset, .unset, .unset, .unset, .unset, .unset, .unset, .unset, .unset, .unset, .unset, .unset, .unset, .unset, .unset] [(.int (a &&& (65535 : Int32)))]))
  obtain ⟨TF, hTF, hTFe⟩ := own_msk a 65535 16 (by decide) (by decide)
  rw [hTFe]
  show OwnG p e below s _ _ _ (s₁.setTop (mkF m 4 #[.val (.int a), .val (.int b), .val (.int c0), .val (.int d), .val (.int e'), .unset, .unset, .unset, .unset, .unset, .unset, .unset, .unset, .unset, .unset, .unset, .unset, .unset, .unset, .unset, .unset, .unset, .unset, .unset, .unset, .unset, .unset, .unset, .unset] [(.int TF.toInt32)]))
  refine own_by (fun t kk_ => XS.i2l X0.here hx rfl (hb hby at_4) rfl kk_) ?_
  show OwnG p e below s _ _ _ (s₁.setTop (mkF m 5 #[.val (.int a), .val (.int b), .val (.int c0), .val (.int d), .val (.int e'), .unset, .unset, .unset, .unset, .unset, .unset, .unset, .unset, .unset, .unset, .unset, .unset, .unset, .unset, .unset, .unset, .unset, .unset, .unset, .unset, .unset, .unset, .unset, .unset] [(.long (TF.toInt32.toInt64))]))
  have h_tf := own_l TF (by omega)
  generalize (TF.toInt32.toInt64) = tf at h_tf ⊢
  show OwnG p e below s _ _ _ (s₁.setTop (mkF m 5 #[.val (.int a), .val (.int b), .val (.int c0), .val (.int d), .val (.int e'), .unset, .unset, .unset, .unset, .unset, .unset, .unset, .unset, .unset, .unset, .unset, .unset, .unset, .unset, .unset, .unset, .unset, .unset, .unset, .unset, .unset, .unset, .unset, .unset] [(.long tf)]))
  refine own_by (fun t kk_ => XS.lstore X0.here hx rfl (hb hby at_5) rfl (l' := #[.val (.int a), .val (.int b), .val (.int c0), .val (.int d), .val (.int e'), .val (.long tf), .second, .unset, .unset, .unset, .unset, .unset, .unset, .unset, .unset, .unset, .unset, .unset, .unset, .unset, .unset, .unset, .unset, .unset, .unset, .unset, .unset, .unset, .unset]) rfl kk_) ?_
  show OwnG p e below s _ _ _ (s₁.setTop (mkF m 7 #[.val (.int a), .val (.int b), .val (.int c0), .val (.int d), .val (.int e'), .val (.long tf), .second, .unset, .unset, .unset, .unset, .unset, .unset, .unset, .unset, .unset, .unset, .unset, .unset, .unset, .unset, .unset, .unset, .unset, .unset, .unset, .unset, .unset, .unset] []))
  refine own_by (fun t kk_ => X0.ldc2Long hx hown (mvT hZ (hw _ (List.mem_of_getElem? (i := 1) rfl))) (g := (mkF m 7 #[.val (.int a), .val (.int b), .val (.int c0), .val (.int d), .val (.int e'), .val (.long tf), .second, .unset, .unset, .unset, .unset, .unset, .unset, .unset, .unset, .unset, .unset, .unset, .unset, .unset, .unset, .unset, .unset, .unset, .unset, .unset, .unset, .unset, .unset] [])) rfl (hb hby at_7) _ kk_) ?_
  show OwnG p e below s _ _ _ (s₁.setTop (mkF m 10 #[.val (.int a), .val (.int b), .val (.int c0), .val (.int d), .val (.int e'), .val (.long tf), .second, .unset, .unset, .unset, .unset, .unset, .unset, .unset, .unset, .unset, .unset, .unset, .unset, .unset, .unset, .unset, .unset, .unset, .unset, .unset, .unset, .unset, .unset] [(.long (2 : Int64))]))
  refine own_by (fun t kk_ => XS.iloadN X0.here hx rfl (hb hby at_10) rfl  kk_) ?_
  show OwnG p e below s _ _ _ (s₁.setTop (mkF m 11 #[.val (.int a), .val (.int b), .val (.int c0), .val (.int d), .val (.int e'), .val (.long tf), .second, .unset, .unset, .unset, .unset, .unset, .unset, .unset, .unset, .unset, .unset, .unset, .unset, .unset, .unset, .unset, .unset, .unset, .unset, .unset, .unset, .unset, .unset] [(.int b), (.long (2 : Int64))]))
  refine own_by (fun t kk_ => XS.bipush X0.here hx rfl (hb hby at_11) kk_) ?_
  show OwnG p e below s _ _ _ (s₁.setTop (mkF m 13 #[.val (.int a), .val (.int b), .val (.int c0), .val (.int d), .val (.int e'), .val (.long tf), .second, .unset, .unset, .unset, .unset, .unset, .unset, .unset, .unset, .unset, .unset, .unset, .unset, .unset, .unset, .unset, .unset, .unset, .unset, .unset, .unset, .unset, .unset] [(.int (63 : Int32)), (.int b), (.long (2 : Int64))]))
  refine own_by (fun t kk_ => XS.iand X0.here hx rfl (hb hby at_13) rfl kk_) ?_
  show OwnG p e below s _ _ _ (s₁.setTop (mkF m 14 #[.val (.int a), .val (.int b), .val (.int c0), .val (.int d), .val (.int e'), .val (.long tf), .second, .unset, .unset, .unset, .unset, .unset, .unset, .unset, .unset, .unset, .unset, .unset, .unset, .unset, .unset, .unset, .unset, .unset, .unset, .unset, .unset, .unset, .unset] [(.int (b &&& (63 : Int32))), (.long (2 : Int64))]))
  obtain ⟨B, hB, hBe⟩ := own_msk b 63 6 (by decide) (by decide)
  rw [hBe]
  show OwnG p e below s _ _ _ (s₁.setTop (mkF m 14 #[.val (.int a), .val (.int b), .val (.int c0), .val (.int d), .val (.int e'), .val (.long tf), .second, .unset, .unset, .unset, .unset, .unset, .unset, .unset, .unset, .unset, .unset, .unset, .unset, .unset, .unset, .unset, .unset, .unset, .unset, .unset, .unset, .unset, .unset] [(.int B.toInt32), (.long (2 : Int64))]))
  refine own_by (fun t kk_ => XS.i2l X0.here hx rfl (hb hby at_14) rfl kk_) ?_
  show OwnG p e below s _ _ _ (s₁.setTop (mkF m 15 #[.val (.int a), .val (.int b), .val (.int c0), .val (.int d), .val (.int e'), .val (.long tf), .second, .unset, .unset, .unset, .unset, .unset, .unset, .unset, .unset, .unset, .unset, .unset, .unset, .unset, .unset, .unset, .unset, .unset, .unset, .unset, .unset, .unset, .unset] [(.long (B.toInt32.toInt64)), (.long (2 : Int64))]))
  refine own_by (fun t kk_ => XS.lmul X0.here hx rfl (hb hby at_15) rfl kk_) ?_
  show OwnG p e below s _ _ _ (s₁.setTop (mkF m 16 #[.val (.int a), .val (.int b), .val (.int c0), .val (.int d), .val (.int e'), .val (.long tf), .second, .unset, .unset, .unset, .unset, .unset, .unset, .unset, .unset, .unset, .unset, .unset, .unset, .unset, .unset, .unset, .unset, .unset, .unset, .unset, .unset, .unset, .unset] [(.long ((2 : Int64) * (B.toInt32.toInt64)))]))
  refine own_by (fun t kk_ => XS.lconst X0.here hx rfl (hb hby at_16) kk_) ?_
  show OwnG p e below s _ _ _ (s₁.setTop (mkF m 17 #[.val (.int a), .val (.int b), .val (.int c0), .val (.int d), .val (.int e'), .val (.long tf), .second, .unset, .unset, .unset, .unset, .unset, .unset, .unset, .unset, .unset, .unset, .unset, .unset, .unset, .unset, .unset, .unset, .unset, .unset, .unset, .unset, .unset, .unset] [(.long (1 : Int64)), (.long ((2 : Int64) * (B.toInt32.toInt64)))]))
  refine own_by (fun t kk_ => XS.ladd X0.here hx rfl (hb hby at_17) rfl kk_) ?_
  show OwnG p e below s _ _ _ (s₁.setTop (mkF m 18 #[.val (.int a), .val (.int b), .val (.int c0), .val (.int d), .val (.int e'), .val (.long tf), .second, .unset, .unset, .unset, .unset, .unset, .unset, .unset, .unset, .unset, .unset, .unset, .unset, .unset, .unset, .unset, .unset, .unset, .unset, .unset, .unset, .unset, .unset] [(.long (((2 : Int64) * (B.toInt32.toInt64)) + (1 : Int64)))]))
  have h_od' := own_addL (own_mulL own_twoL (own_l B (by omega)) (by omega)) own_oneL (by omega)
  generalize (((2 : Int64) * (B.toInt32.toInt64)) + (1 : Int64)) = od' at h_od' ⊢
  show OwnG p e below s _ _ _ (s₁.setTop (mkF m 18 #[.val (.int a), .val (.int b), .val (.int c0), .val (.int d), .val (.int e'), .val (.long tf), .second, .unset, .unset, .unset, .unset, .unset, .unset, .unset, .unset, .unset, .unset, .unset, .unset, .unset, .unset, .unset, .unset, .unset, .unset, .unset, .unset, .unset, .unset] [(.long od')]))
  refine own_by (fun t kk_ => XS.lstore X0.here hx rfl (hb hby at_18) rfl (l' := #[.val (.int a), .val (.int b), .val (.int c0), .val (.int d), .val (.int e'), .val (.long tf), .second, .val (.long od'), .second, .unset, .unset, .unset, .unset, .unset, .unset, .unset, .unset, .unset, .unset, .unset, .unset, .unset, .unset, .unset, .unset, .unset, .unset, .unset, .unset]) rfl kk_) ?_
  show OwnG p e below s _ _ _ (s₁.setTop (mkF m 20 #[.val (.int a), .val (.int b), .val (.int c0), .val (.int d), .val (.int e'), .val (.long tf), .second, .val (.long od'), .second, .unset, .unset, .unset, .unset, .unset, .unset, .unset, .unset, .unset, .unset, .unset, .unset, .unset, .unset, .unset, .unset, .unset, .unset, .unset, .unset] []))
  refine own_by (fun t kk_ => XS.iloadN X0.here hx rfl (hb hby at_20) rfl  kk_) ?_
  show OwnG p e below s _ _ _ (s₁.setTop (mkF m 21 #[.val (.int a), .val (.int b), .val (.int c0), .val (.int d), .val (.int e'), .val (.long tf), .second, .val (.long od'), .second, .unset, .unset, .unset, .unset, .unset, .unset, .unset, .unset, .unset, .unset, .unset, .unset, .unset, .unset, .unset, .unset, .unset, .unset, .unset, .unset] [(.int b)]))
  refine own_by (fun t kk_ => XS.bipush X0.here hx rfl (hb hby at_21) kk_) ?_
  show OwnG p e below s _ _ _ (s₁.setTop (mkF m 23 #[.val (.int a), .val (.int b), .val (.int c0), .val (.int d), .val (.int e'), .val (.long tf), .second, .val (.long od'), .second, .unset, .unset, .unset, .unset, .unset, .unset, .unset, .unset, .unset, .unset, .unset, .unset, .unset, .unset, .unset, .unset, .unset, .unset, .unset, .unset] [(.int (6 : Int32)), (.int b)]))
  refine own_by (fun t kk_ => XS.iushr X0.here hx rfl (hb hby at_23) rfl kk_) ?_
  show OwnG p e below s _ _ _ (s₁.setTop (mkF m 24 #[.val (.int a), .val (.int b), .val (.int c0), .val (.int d), .val (.int e'), .val (.long tf), .second, .val (.long od'), .second, .unset, .unset, .unset, .unset, .unset, .unset, .unset, .unset, .unset, .unset, .unset, .unset, .unset, .unset, .unset, .unset, .unset, .unset, .unset, .unset] [(.int ((b.toUInt32 >>> ((6 : Int32) &&& 31).toUInt32).toInt32))]))
  refine own_by (fun t kk_ => XS.bipush X0.here hx rfl (hb hby at_24) kk_) ?_
  show OwnG p e below s _ _ _ (s₁.setTop (mkF m 26 #[.val (.int a), .val (.int b), .val (.int c0), .val (.int d), .val (.int e'), .val (.long tf), .second, .val (.long od'), .second, .unset, .unset, .unset, .unset, .unset, .unset, .unset, .unset, .unset, .unset, .unset, .unset, .unset, .unset, .unset, .unset, .unset, .unset, .unset, .unset] [(.int (7 : Int32)), (.int ((b.toUInt32 >>> ((6 : Int32) &&& 31).toUInt32).toInt32))]))
  refine own_by (fun t kk_ => XS.iand X0.here hx rfl (hb hby at_26) rfl kk_) ?_
  show OwnG p e below s _ _ _ (s₁.setTop (mkF m 27 #[.val (.int a), .val (.int b), .val (.int c0), .val (.int d), .val (.int e'), .val (.long tf), .second, .val (.long od'), .second, .unset, .unset, .unset, .unset, .unset, .unset, .unset, .unset, .unset, .unset, .unset, .unset, .unset, .unset, .unset, .unset, .unset, .unset, .unset, .unset] [(.int (((b.toUInt32 >>> ((6 : Int32) &&& 31).toUInt32).toInt32) &&& (7 : Int32)))]))
  obtain ⟨k, hk, hke⟩ := own_msk ((b.toUInt32 >>> ((6 : Int32) &&& 31).toUInt32).toInt32) 7 3 (by decide) (by decide)
  rw [hke]
  show OwnG p e below s _ _ _ (s₁.setTop (mkF m 27 #[.val (.int a), .val (.int b), .val (.int c0), .val (.int d), .val (.int e'), .val (.long tf), .second, .val (.long od'), .second, .unset, .unset, .unset, .unset, .unset, .unset, .unset, .unset, .unset, .unset, .unset, .unset, .unset, .unset, .unset, .unset, .unset, .unset, .unset, .unset] [(.int k.toInt32)]))
  refine own_by (fun t kk_ => XS.istore X0.here hx rfl (hb hby at_27) rfl (l' := #[.val (.int a), .val (.int b), .val (.int c0), .val (.int d), .val (.int e'), .val (.long tf), .second, .val (.long od'), .second, .val (.int k.toInt32), .unset, .unset, .unset, .unset, .unset, .unset, .unset, .unset, .unset, .unset, .unset, .unset, .unset, .unset, .unset, .unset, .unset, .unset, .unset]) rfl kk_) ?_
  show OwnG p e below s _ _ _ (s₁.setTop (mkF m 29 #[.val (.int a), .val (.int b), .val (.int c0), .val (.int d), .val (.int e'), .val (.long tf), .second, .val (.long od'), .second, .val (.int k.toInt32), .unset, .unset, .unset, .unset, .unset, .unset, .unset, .unset, .unset, .unset, .unset, .unset, .unset, .unset, .unset, .unset, .unset, .unset, .unset] []))
  refine own_by (fun t kk_ => XS.lload X0.here hx rfl (hb hby at_29) rfl  kk_) ?_
  show OwnG p e below s _ _ _ (s₁.setTop (mkF m 31 #[.val (.int a), .val (.int b), .val (.int c0), .val (.int d), .val (.int e'), .val (.long tf), .second, .val (.long od'), .second, .val (.int k.toInt32), .unset, .unset, .unset, .unset, .unset, .unset, .unset, .unset, .unset, .unset, .unset, .unset, .unset, .unset, .unset, .unset, .unset, .unset, .unset] [(.long od')]))
  refine own_by (fun t kk_ => XS.iload X0.here hx rfl (hb hby at_31) rfl  kk_) ?_
  show OwnG p e below s _ _ _ (s₁.setTop (mkF m 33 #[.val (.int a), .val (.int b), .val (.int c0), .val (.int d), .val (.int e'), .val (.long tf), .second, .val (.long od'), .second, .val (.int k.toInt32), .unset, .unset, .unset, .unset, .unset, .unset, .unset, .unset, .unset, .unset, .unset, .unset, .unset, .unset, .unset, .unset, .unset, .unset, .unset] [(.int k.toInt32), (.long od')]))
  refine own_by (fun t kk_ => XS.lshl X0.here hx rfl (hb hby at_33) rfl kk_) ?_
  show OwnG p e below s _ _ _ (s₁.setTop (mkF m 34 #[.val (.int a), .val (.int b), .val (.int c0), .val (.int d), .val (.int e'), .val (.long tf), .second, .val (.long od'), .second, .val (.int k.toInt32), .unset, .unset, .unset, .unset, .unset, .unset, .unset, .unset, .unset, .unset, .unset, .unset, .unset, .unset, .unset, .unset, .unset, .unset, .unset] [(.long (od' <<< (k.toInt32 &&& 0x3f).toInt64))]))
  have h_T := own_shlL (k := k) h_od' (by omega) (by have pk : 2 ^ k ≤ 2 ^ 7 := Nat.pow_le_pow_right (by decide) (by omega); have : (2 * B + 1) * 2 ^ k ≤ 127 * 2 ^ 7 := Nat.mul_le_mul (by omega) pk; omega)
  generalize (od' <<< (k.toInt32 &&& 0x3f).toInt64) = T at h_T ⊢
  show OwnG p e below s _ _ _ (s₁.setTop (mkF m 34 #[.val (.int a), .val (.int b), .val (.int c0), .val (.int d), .val (.int e'), .val (.long tf), .second, .val (.long od'), .second, .val (.int k.toInt32), .unset, .unset, .unset, .unset, .unset, .unset, .unset, .unset, .unset, .unset, .unset, .unset, .unset, .unset, .unset, .unset, .unset, .unset, .unset] [(.long T)]))
  refine own_by (fun t kk_ => XS.lstore X0.here hx rfl (hb hby at_34) rfl (l' := #[.val (.int a), .val (.int b), .val (.int c0), .val (.int d), .val (.int e'), .val (.long tf), .second, .val (.long od'), .second, .val (.int k.toInt32), .val (.long T), .second, .unset, .unset, .unset, .unset, .unset, .unset, .unset, .unset, .unset, .unset, .unset, .unset, .unset, .unset, .unset, .unset, .unset]) rfl kk_) ?_
  show OwnG p e below s _ _ _ (s₁.setTop (mkF m 36 #[.val (.int a), .val (.int b), .val (.int c0), .val (.int d), .val (.int e'), .val (.long tf), .second, .val (.long od'), .second, .val (.int k.toInt32), .val (.long T), .second, .unset, .unset, .unset, .unset, .unset, .unset, .unset, .unset, .unset, .unset, .unset, .unset, .unset, .unset, .unset, .unset, .unset] []))
  refine own_by (fun t kk_ => XS.iloadN X0.here hx rfl (hb hby at_36) rfl  kk_) ?_
  show OwnG p e below s _ _ _ (s₁.setTop (mkF m 37 #[.val (.int a), .val (.int b), .val (.int c0), .val (.int d), .val (.int e'), .val (.long tf), .second, .val (.long od'), .second, .val (.int k.toInt32), .val (.long T), .second, .unset, .unset, .unset, .unset, .unset, .unset, .unset, .unset, .unset, .unset, .unset, .unset, .unset, .unset, .unset, .unset, .unset] [(.int c0)]))
  refine own_by (fun t kk_ => XS.sipush X0.here hx rfl (hb hby at_37) kk_) ?_
  show OwnG p e below s _ _ _ (s₁.setTop (mkF m 40 #[.val (.int a), .val (.int b), .val (.int c0), .val (.int d), .val (.int e'), .val (.long tf), .second, .val (.long od'), .second, .val (.int k.toInt32), .val (.long T), .second, .unset, .unset, .unset, .unset, .unset, .unset, .unset, .unset, .unset, .unset, .unset, .unset, .unset, .unset, .unset, .unset, .unset] [(.int (4095 : Int32)), (.int c0)]))
  refine own_by (fun t kk_ => XS.iand X0.here hx rfl (hb hby at_40) rfl kk_) ?_
  show OwnG p e below s _ _ _ (s₁.setTop (mkF m 41 #[.val (.int a), .val (.int b), .val (.int c0), .val (.int d), .val (.int e'), .val (.long tf), .second, .val (.long od'), .second, .val (.int k.toInt32), .val (.long T), .second, .unset, .unset, .unset, .unset, .unset, .unset, .unset, .unset, .unset, .unset, .unset, .unset, .unset, .unset, .unset, .unset, .unset] [(.int (c0 &&& (4095 : Int32)))]))
  obtain ⟨fp, hfp, hfpe⟩ := own_msk c0 4095 12 (by decide) (by decide)
  rw [hfpe]
  show OwnG p e below s _ _ _ (s₁.setTop (mkF m 41 #[.val (.int a), .val (.int b), .val (.int c0), .val (.int d), .val (.int e'), .val (.long tf), .second, .val (.long od'), .second, .val (.int k.toInt32), .val (.long T), .second, .unset, .unset, .unset, .unset, .unset, .unset, .unset, .unset, .unset, .unset, .unset, .unset, .unset, .unset, .unset, .unset, .unset] [(.int fp.toInt32)]))
  refine own_by (fun t kk_ => XS.i2l X0.here hx rfl (hb hby at_41) rfl kk_) ?_
  show OwnG p e below s _ _ _ (s₁.setTop (mkF m 42 #[.val (.int a), .val (.int b), .val (.int c0), .val (.int d), .val (.int e'), .val (.long tf), .second, .val (.long od'), .second, .val (.int k.toInt32), .val (.long T), .second, .unset, .unset, .unset, .unset, .unset, .unset, .unset, .unset, .unset, .unset, .unset, .unset, .unset, .unset, .unset, .unset, .unset] [(.long (fp.toInt32.toInt64))]))
  have h_fp' := own_l fp (by omega)
  generalize (fp.toInt32.toInt64) = fp' at h_fp' ⊢
  show OwnG p e below s _ _ _ (s₁.setTop (mkF m 42 #[.val (.int a), .val (.int b), .val (.int c0), .val (.int d), .val (.int e'), .val (.long tf), .second, .val (.long od'), .second, .val (.int k.toInt32), .val (.long T), .second, .unset, .unset, .unset, .unset, .unset, .unset, .unset, .unset, .unset, .unset, .unset, .unset, .unset, .unset, .unset, .unset, .unset] [(.long fp')]))
  refine own_by (fun t kk_ => XS.lstore X0.here hx rfl (hb hby at_42) rfl (l' := #[.val (.int a), .val (.int b), .val (.int c0), .val (.int d), .val (.int e'), .val (.long tf), .second, .val (.long od'), .second, .val (.int k.toInt32), .val (.long T), .second, .val (.long fp'), .second, .unset, .unset, .unset, .unset, .unset, .unset, .unset, .unset, .unset, .unset, .unset, .unset, .unset, .unset, .unset]) rfl kk_) ?_
  show OwnG p e below s _ _ _ (s₁.setTop (mkF m 44 #[.val (.int a), .val (.int b), .val (.int c0), .val (.int d), .val (.int e'), .val (.long tf), .second, .val (.long od'), .second, .val (.int k.toInt32), .val (.long T), .second, .val (.long fp'), .second, .unset, .unset, .unset, .unset, .unset, .unset, .unset, .unset, .unset, .unset, .unset, .unset, .unset, .unset, .unset] []))
  refine own_by (fun t kk_ => XS.lload X0.here hx rfl (hb hby at_44) rfl  kk_) ?_
  show OwnG p e below s _ _ _ (s₁.setTop (mkF m 46 #[.val (.int a), .val (.int b), .val (.int c0), .val (.int d), .val (.int e'), .val (.long tf), .second, .val (.long od'), .second, .val (.int k.toInt32), .val (.long T), .second, .val (.long fp'), .second, .unset, .unset, .unset, .unset, .unset, .unset, .unset, .unset, .unset, .unset, .unset, .unset, .unset, .unset, .unset] [(.long od')]))
  refine own_by (fun t kk_ => XS.lload X0.here hx rfl (hb hby at_46) rfl  kk_) ?_
  show OwnG p e below s _ _ _ (s₁.setTop (mkF m 48 #[.val (.int a), .val (.int b), .val (.int c0), .val (.int d), .val (.int e'), .val (.long tf), .second, .val (.long od'), .second, .val (.int k.toInt32), .val (.long T), .second, .val (.long fp'), .second, .unset, .unset, .unset, .unset, .unset, .unset, .unset, .unset, .unset, .unset, .unset, .unset, .unset, .unset, .unset] [(.long fp'), (.long od')]))
  refine own_by (fun t kk_ => XS.lmul X0.here hx rfl (hb hby at_48) rfl kk_) ?_
  show OwnG p e below s _ _ _ (s₁.setTop (mkF m 49 #[.val (.int a), .val (.int b), .val (.int c0), .val (.int d), .val (.int e'), .val (.long tf), .second, .val (.long od'), .second, .val (.int k.toInt32), .val (.long T), .second, .val (.long fp'), .second, .unset, .unset, .unset, .unset, .unset, .unset, .unset, .unset, .unset, .unset, .unset, .unset, .unset, .unset, .unset] [(.long (od' * fp'))]))
  have h_F := own_mulL h_od' h_fp' (by have : (2 * B + 1) * fp ≤ 127 * 4095 := Nat.mul_le_mul (by omega) (by omega); omega)
  generalize (od' * fp') = F at h_F ⊢
  show OwnG p e below s _ _ _ (s₁.setTop (mkF m 49 #[.val (.int a), .val (.int b), .val (.int c0), .val (.int d), .val (.int e'), .val (.long tf), .second, .val (.long od'), .second, .val (.int k.toInt32), .val (.long T), .second, .val (.long fp'), .second, .unset, .unset, .unset, .unset, .unset, .unset, .unset, .unset, .unset, .unset, .unset, .unset, .unset, .unset, .unset] [(.long F)]))
  refine own_by (fun t kk_ => XS.lstore X0.here hx rfl (hb hby at_49) rfl (l' := #[.val (.int a), .val (.int b), .val (.int c0), .val (.int d), .val (.int e'), .val (.long tf), .second, .val (.long od'), .second, .val (.int k.toInt32), .val (.long T), .second, .val (.long fp'), .second, .val (.long F), .second, .unset, .unset, .unset, .unset, .unset, .unset, .unset, .unset, .unset, .unset, .unset, .unset, .unset]) rfl kk_) ?_
  show OwnG p e below s _ _ _ (s₁.setTop (mkF m 51 #[.val (.int a), .val (.int b), .val (.int c0), .val (.int d), .val (.int e'), .val (.long tf), .second, .val (.long od'), .second, .val (.int k.toInt32), .val (.long T), .second, .val (.long fp'), .second, .val (.long F), .second, .unset, .unset, .unset, .unset, .unset, .unset, .unset, .unset, .unset, .unset, .unset, .unset, .unset] []))
  refine own_by (fun t kk_ => XS.iconst X0.here hx rfl (hb hby at_51) kk_) ?_
  show OwnG p e below s _ _ _ (s₁.setTop (mkF m 52 #[.val (.int a), .val (.int b), .val (.int c0), .val (.int d), .val (.int e'), .val (.long tf), .second, .val (.long od'), .second, .val (.int k.toInt32), .val (.long T), .second, .val (.long fp'), .second, .val (.long F), .second, .unset, .unset, .unset, .unset, .unset, .unset, .unset, .unset, .unset, .unset, .unset, .unset, .unset] [(.int (1 : Int32))]))
  refine own_by (fun t kk_ => XS.iloadN X0.here hx rfl (hb hby at_52) rfl  kk_) ?_
  show OwnG p e below s _ _ _ (s₁.setTop (mkF m 53 #[.val (.int a), .val (.int b), .val (.int c0), .val (.int d), .val (.int e'), .val (.long tf), .second, .val (.long od'), .second, .val (.int k.toInt32), .val (.long T), .second, .val (.long fp'), .second, .val (.long F), .second, .unset, .unset, .unset, .unset, .unset, .unset, .unset, .unset, .unset, .unset, .unset, .unset, .unset] [(.int d), (.int (1 : Int32))]))
  refine own_by (fun t kk_ => X0.ldcInt hx hown (mvT hZ (hw _ (List.mem_of_getElem? (i := 2) rfl))) (g := (mkF m 53 #[.val (.int a), .val (.int b), .val (.int c0), .val (.int d), .val (.int e'), .val (.long tf), .second, .val (.long od'), .second, .val (.int k.toInt32), .val (.long T), .second, .val (.long fp'), .second, .val (.long F), .second, .unset, .unset, .unset, .unset, .unset, .unset, .unset, .unset, .unset, .unset, .unset, .unset, .unset] [(.int d), (.int (1 : Int32))])) rfl (hb hby at_53) _ kk_) ?_
  show OwnG p e below s _ _ _ (s₁.setTop (mkF m 55 #[.val (.int a), .val (.int b), .val (.int c0), .val (.int d), .val (.int e'), .val (.long tf), .second, .val (.long od'), .second, .val (.int k.toInt32), .val (.long T), .second, .val (.long fp'), .second, .val (.long F), .second, .unset, .unset, .unset, .unset, .unset, .unset, .unset, .unset, .unset, .unset, .unset, .unset, .unset] [(.int (2147483647 : Int32)), (.int d), (.int (1 : Int32))]))
  refine own_by (fun t kk_ => XS.iand X0.here hx rfl (hb hby at_55) rfl kk_) ?_
  show OwnG p e below s _ _ _ (s₁.setTop (mkF m 56 #[.val (.int a), .val (.int b), .val (.int c0), .val (.int d), .val (.int e'), .val (.long tf), .second, .val (.long od'), .second, .val (.int k.toInt32), .val (.long T), .second, .val (.long fp'), .second, .val (.long F), .second, .unset, .unset, .unset, .unset, .unset, .unset, .unset, .unset, .unset, .unset, .unset, .unset, .unset] [(.int (d &&& (2147483647 : Int32))), (.int (1 : Int32))]))
  obtain ⟨dd, hdd, hdde⟩ := own_msk d 2147483647 31 (by decide) (by decide)
  rw [hdde]
  show OwnG p e below s _ _ _ (s₁.setTop (mkF m 56 #[.val (.int a), .val (.int b), .val (.int c0), .val (.int d), .val (.int e'), .val (.long tf), .second, .val (.long od'), .second, .val (.int k.toInt32), .val (.long T), .second, .val (.long fp'), .second, .val (.long F), .second, .unset, .unset, .unset, .unset, .unset, .unset, .unset, .unset, .unset, .unset, .unset, .unset, .unset] [(.int dd.toInt32), (.int (1 : Int32))]))
  refine own_by (fun t kk_ => XS.bipush X0.here hx rfl (hb hby at_56) kk_) ?_
  show OwnG p e below s _ _ _ (s₁.setTop (mkF m 58 #[.val (.int a), .val (.int b), .val (.int c0), .val (.int d), .val (.int e'), .val (.long tf), .second, .val (.long od'), .second, .val (.int k.toInt32), .val (.long T), .second, .val (.long fp'), .second, .val (.long F), .second, .unset, .unset, .unset, .unset, .unset, .unset, .unset, .unset, .unset, .unset, .unset, .unset, .unset] [(.int (10 : Int32)), (.int dd.toInt32), (.int (1 : Int32))]))
  refine own_by (fun t kk_ => XS.irem X0.here hx rfl (hb hby at_58) rfl (by decide) kk_) ?_
  show OwnG p e below s _ _ _ (s₁.setTop (mkF m 59 #[.val (.int a), .val (.int b), .val (.int c0), .val (.int d), .val (.int e'), .val (.long tf), .second, .val (.long od'), .second, .val (.int k.toInt32), .val (.long T), .second, .val (.long fp'), .second, .val (.long F), .second, .unset, .unset, .unset, .unset, .unset, .unset, .unset, .unset, .unset, .unset, .unset, .unset, .unset] [(.int (dd.toInt32 - (dd.toInt32 / (10 : Int32)) * (10 : Int32))), (.int (1 : Int32))]))
  refine own_by (fun t kk_ => XS.iadd X0.here hx rfl (hb hby at_59) rfl kk_) ?_
  show OwnG p e below s _ _ _ (s₁.setTop (mkF m 60 #[.val (.int a), .val (.int b), .val (.int c0), .val (.int d), .val (.int e'), .val (.long tf), .second, .val (.long od'), .second, .val (.int k.toInt32), .val (.long T), .second, .val (.long fp'), .second, .val (.long F), .second, .unset, .unset, .unset, .unset, .unset, .unset, .unset, .unset, .unset, .unset, .unset, .unset, .unset] [(.int ((1 : Int32) + (dd.toInt32 - (dd.toInt32 / (10 : Int32)) * (10 : Int32))))]))
  rw [show (10 : Int32) = (10 : Nat).toInt32 from rfl, own_remN dd 10 (by omega) (by decide) (by decide), show (1 : Int32) + (dd % 10).toInt32 = (1 : Nat).toInt32 + (dd % 10).toInt32 from rfl, own_addN]
  generalize hj0 : 1 + dd % 10 = j
  have hj1 : 1 ≤ j := by omega
  have hj2 : j ≤ 10 := by omega
  have pj : 2 ^ j ≤ 2 ^ 10 := Nat.pow_le_pow_right (by decide) hj2
  have pj2 : 2 ^ 1 ≤ 2 ^ j := Nat.pow_le_pow_right (by decide) hj1
  have pk : 2 ^ k ≤ 2 ^ 7 := Nat.pow_le_pow_right (by decide) (by omega)
  have pk0 := Nat.two_pow_pos k
  show OwnG p e below s _ _ _ (s₁.setTop (mkF m 60 #[.val (.int a), .val (.int b), .val (.int c0), .val (.int d), .val (.int e'), .val (.long tf), .second, .val (.long od'), .second, .val (.int k.toInt32), .val (.long T), .second, .val (.long fp'), .second, .val (.long F), .second, .unset, .unset, .unset, .unset, .unset, .unset, .unset, .unset, .unset, .unset, .unset, .unset, .unset] [(.int j.toInt32)]))
  refine own_by (fun t kk_ => XS.istore X0.here hx rfl (hb hby at_60) rfl (l' := #[.val (.int a), .val (.int b), .val (.int c0), .val (.int d), .val (.int e'), .val (.long tf), .second, .val (.long od'), .second, .val (.int k.toInt32), .val (.long T), .second, .val (.long fp'), .second, .val (.long F), .second, .val (.int j.toInt32), .unset, .unset, .unset, .unset, .unset, .unset, .unset, .unset, .unset, .unset, .unset, .unset]) rfl kk_) ?_
  show OwnG p e below s _ _ _ (s₁.setTop (mkF m 62 #[.val (.int a), .val (.int b), .val (.int c0), .val (.int d), .val (.int e'), .val (.long tf), .second, .val (.long od'), .second, .val (.int k.toInt32), .val (.long T), .second, .val (.long fp'), .second, .val (.long F), .second, .val (.int j.toInt32), .unset, .unset, .unset, .unset, .unset, .unset, .unset, .unset, .unset, .unset, .unset, .unset] []))
  refine own_by (fun t kk_ => XS.lconst X0.here hx rfl (hb hby at_62) kk_) ?_
  show OwnG p e below s _ _ _ (s₁.setTop (mkF m 63 #[.val (.int a), .val (.int b), .val (.int c0), .val (.int d), .val (.int e'), .val (.long tf), .second, .val (.long od'), .second, .val (.int k.toInt32), .val (.long T), .second, .val (.long fp'), .second, .val (.long F), .second, .val (.int j.toInt32), .unset, .unset, .unset, .unset, .unset, .unset, .unset, .unset, .unset, .unset, .unset, .unset] [(.long (1 : Int64))]))
  refine own_by (fun t kk_ => XS.iload X0.here hx rfl (hb hby at_63) rfl  kk_) ?_
  show OwnG p e below s _ _ _ (s₁.setTop (mkF m 65 #[.val (.int a), .val (.int b), .val (.int c0), .val (.int d), .val (.int e'), .val (.long tf), .second, .val (.long od'), .second, .val (.int k.toInt32), .val (.long T), .second, .val (.long fp'), .second, .val (.long F), .second, .val (.int j.toInt32), .unset, .unset, .unset, .unset, .unset, .unset, .unset, .unset, .unset, .unset, .unset, .unset] [(.int j.toInt32), (.long (1 : Int64))]))
  refine own_by (fun t kk_ => XS.lshl X0.here hx rfl (hb hby at_65) rfl kk_) ?_
  show OwnG p e below s _ _ _ (s₁.setTop (mkF m 66 #[.val (.int a), .val (.int b), .val (.int c0), .val (.int d), .val (.int e'), .val (.long tf), .second, .val (.long od'), .second, .val (.int k.toInt32), .val (.long T), .second, .val (.long fp'), .second, .val (.long F), .second, .val (.int j.toInt32), .unset, .unset, .unset, .unset, .unset, .unset, .unset, .unset, .unset, .unset, .unset, .unset] [(.long ((1 : Int64) <<< (j.toInt32 &&& 0x3f).toInt64))]))
  have h_ss := own_shlL (k := j) own_oneL (by omega) (by omega)
  generalize ((1 : Int64) <<< (j.toInt32 &&& 0x3f).toInt64) = ss at h_ss ⊢
  show OwnG p e below s _ _ _ (s₁.setTop (mkF m 66 #[.val (.int a), .val (.int b), .val (.int c0), .val (.int d), .val (.int e'), .val (.long tf), .second, .val (.long od'), .second, .val (.int k.toInt32), .val (.long T), .second, .val (.long fp'), .second, .val (.long F), .second, .val (.int j.toInt32), .unset, .unset, .unset, .unset, .unset, .unset, .unset, .unset, .unset, .unset, .unset, .unset] [(.long ss)]))
  refine own_by (fun t kk_ => XS.lstore X0.here hx rfl (hb hby at_66) rfl (l' := #[.val (.int a), .val (.int b), .val (.int c0), .val (.int d), .val (.int e'), .val (.long tf), .second, .val (.long od'), .second, .val (.int k.toInt32), .val (.long T), .second, .val (.long fp'), .second, .val (.long F), .second, .val (.int j.toInt32), .val (.long ss), .second, .unset, .unset, .unset, .unset, .unset, .unset, .unset, .unset, .unset, .unset]) rfl kk_) ?_
  show OwnG p e below s _ _ _ (s₁.setTop (mkF m 68 #[.val (.int a), .val (.int b), .val (.int c0), .val (.int d), .val (.int e'), .val (.long tf), .second, .val (.long od'), .second, .val (.int k.toInt32), .val (.long T), .second, .val (.long fp'), .second, .val (.long F), .second, .val (.int j.toInt32), .val (.long ss), .second, .unset, .unset, .unset, .unset, .unset, .unset, .unset, .unset, .unset, .unset] []))
  refine own_by (fun t kk_ => XS.lconst X0.here hx rfl (hb hby at_68) kk_) ?_
  show OwnG p e below s _ _ _ (s₁.setTop (mkF m 69 #[.val (.int a), .val (.int b), .val (.int c0), .val (.int d), .val (.int e'), .val (.long tf), .second, .val (.long od'), .second, .val (.int k.toInt32), .val (.long T), .second, .val (.long fp'), .second, .val (.long F), .second, .val (.int j.toInt32), .val (.long ss), .second, .unset, .unset, .unset, .unset, .unset, .unset, .unset, .unset, .unset, .unset] [(.long (1 : Int64))]))
  refine own_by (fun t kk_ => XS.iload X0.here hx rfl (hb hby at_69) rfl  kk_) ?_
  show OwnG p e below s _ _ _ (s₁.setTop (mkF m 71 #[.val (.int a), .val (.int b), .val (.int c0), .val (.int d), .val (.int e'), .val (.long tf), .second, .val (.long od'), .second, .val (.int k.toInt32), .val (.long T), .second, .val (.long fp'), .second, .val (.long F), .second, .val (.int j.toInt32), .val (.long ss), .second, .unset, .unset, .unset, .unset, .unset, .unset, .unset, .unset, .unset, .unset] [(.int e'), (.long (1 : Int64))]))
  refine own_by (fun t kk_ => X0.ldcInt hx hown (mvT hZ (hw _ (List.mem_of_getElem? (i := 2) rfl))) (g := (mkF m 71 #[.val (.int a), .val (.int b), .val (.int c0), .val (.int d), .val (.int e'), .val (.long tf), .second, .val (.long od'), .second, .val (.int k.toInt32), .val (.long T), .second, .val (.long fp'), .second, .val (.long F), .second, .val (.int j.toInt32), .val (.long ss), .second, .unset, .unset, .unset, .unset, .unset, .unset, .unset, .unset, .unset, .unset] [(.int e'), (.long (1 : Int64))])) rfl (hb hby at_71) _ kk_) ?_
  show OwnG p e below s _ _ _ (s₁.setTop (mkF m 73 #[.val (.int a), .val (.int b), .val (.int c0), .val (.int d), .val (.int e'), .val (.long tf), .second, .val (.long od'), .second, .val (.int k.toInt32), .val (.long T), .second, .val (.long fp'), .second, .val (.long F), .second, .val (.int j.toInt32), .val (.long ss), .second, .unset, .unset, .unset, .unset, .unset, .unset, .unset, .unset, .unset, .unset] [(.int (2147483647 : Int32)), (.int e'), (.long (1 : Int64))]))
  refine own_by (fun t kk_ => XS.iand X0.here hx rfl (hb hby at_73) rfl kk_) ?_
  show OwnG p e below s _ _ _ (s₁.setTop (mkF m 74 #[.val (.int a), .val (.int b), .val (.int c0), .val (.int d), .val (.int e'), .val (.long tf), .second, .val (.long od'), .second, .val (.int k.toInt32), .val (.long T), .second, .val (.long fp'), .second, .val (.long F), .second, .val (.int j.toInt32), .val (.long ss), .second, .unset, .unset, .unset, .unset, .unset, .unset, .unset, .unset, .unset, .unset] [(.int (e' &&& (2147483647 : Int32))), (.long (1 : Int64))]))
  obtain ⟨ee, hee, heee⟩ := own_msk e' 2147483647 31 (by decide) (by decide)
  rw [heee]
  show OwnG p e below s _ _ _ (s₁.setTop (mkF m 74 #[.val (.int a), .val (.int b), .val (.int c0), .val (.int d), .val (.int e'), .val (.long tf), .second, .val (.long od'), .second, .val (.int k.toInt32), .val (.long T), .second, .val (.long fp'), .second, .val (.long F), .second, .val (.int j.toInt32), .val (.long ss), .second, .unset, .unset, .unset, .unset, .unset, .unset, .unset, .unset, .unset, .unset] [(.int ee.toInt32), (.long (1 : Int64))]))
  refine own_by (fun t kk_ => XS.i2l X0.here hx rfl (hb hby at_74) rfl kk_) ?_
  show OwnG p e below s _ _ _ (s₁.setTop (mkF m 75 #[.val (.int a), .val (.int b), .val (.int c0), .val (.int d), .val (.int e'), .val (.long tf), .second, .val (.long od'), .second, .val (.int k.toInt32), .val (.long T), .second, .val (.long fp'), .second, .val (.long F), .second, .val (.int j.toInt32), .val (.long ss), .second, .unset, .unset, .unset, .unset, .unset, .unset, .unset, .unset, .unset, .unset] [(.long (ee.toInt32.toInt64)), (.long (1 : Int64))]))
  refine own_by (fun t kk_ => XS.lload X0.here hx rfl (hb hby at_75) rfl  kk_) ?_
  show OwnG p e below s _ _ _ (s₁.setTop (mkF m 77 #[.val (.int a), .val (.int b), .val (.int c0), .val (.int d), .val (.int e'), .val (.long tf), .second, .val (.long od'), .second, .val (.int k.toInt32), .val (.long T), .second, .val (.long fp'), .second, .val (.long F), .second, .val (.int j.toInt32), .val (.long ss), .second, .unset, .unset, .unset, .unset, .unset, .unset, .unset, .unset, .unset, .unset] [(.long ss), (.long (ee.toInt32.toInt64)), (.long (1 : Int64))]))
  refine own_by (fun t kk_ => XS.lconst X0.here hx rfl (hb hby at_77) kk_) ?_
  show OwnG p e below s _ _ _ (s₁.setTop (mkF m 78 #[.val (.int a), .val (.int b), .val (.int c0), .val (.int d), .val (.int e'), .val (.long tf), .second, .val (.long od'), .second, .val (.int k.toInt32), .val (.long T), .second, .val (.long fp'), .second, .val (.long F), .second, .val (.int j.toInt32), .val (.long ss), .second, .unset, .unset, .unset, .unset, .unset, .unset, .unset, .unset, .unset, .unset] [(.long (1 : Int64)), (.long ss), (.long (ee.toInt32.toInt64)), (.long (1 : Int64))]))
  refine own_by (fun t kk_ => XS.lsub X0.here hx rfl (hb hby at_78) rfl kk_) ?_
  show OwnG p e below s _ _ _ (s₁.setTop (mkF m 79 #[.val (.int a), .val (.int b), .val (.int c0), .val (.int d), .val (.int e'), .val (.long tf), .second, .val (.long od'), .second, .val (.int k.toInt32), .val (.long T), .second, .val (.long fp'), .second, .val (.long F), .second, .val (.int j.toInt32), .val (.long ss), .second, .unset, .unset, .unset, .unset, .unset, .unset, .unset, .unset, .unset, .unset] [(.long (ss - (1 : Int64))), (.long (ee.toInt32.toInt64)), (.long (1 : Int64))]))
  refine own_by (fun t kk_ => XS.lrem X0.here hx rfl (hb hby at_79) rfl (own_nzL (own_subL h_ss own_oneL (by omega) (by omega)) (by omega)) kk_) ?_
  show OwnG p e below s _ _ _ (s₁.setTop (mkF m 80 #[.val (.int a), .val (.int b), .val (.int c0), .val (.int d), .val (.int e'), .val (.long tf), .second, .val (.long od'), .second, .val (.int k.toInt32), .val (.long T), .second, .val (.long fp'), .second, .val (.long F), .second, .val (.int j.toInt32), .val (.long ss), .second, .unset, .unset, .unset, .unset, .unset, .unset, .unset, .unset, .unset, .unset] [(.long ((ee.toInt32.toInt64) - ((ee.toInt32.toInt64) / (ss - (1 : Int64))) * (ss - (1 : Int64)))), (.long (1 : Int64))]))
  refine own_by (fun t kk_ => XS.ladd X0.here hx rfl (hb hby at_80) rfl kk_) ?_
  show OwnG p e below s _ _ _ (s₁.setTop (mkF m 81 #[.val (.int a), .val (.int b), .val (.int c0), .val (.int d), .val (.int e'), .val (.long tf), .second, .val (.long od'), .second, .val (.int k.toInt32), .val (.long T), .second, .val (.long fp'), .second, .val (.long F), .second, .val (.int j.toInt32), .val (.long ss), .second, .unset, .unset, .unset, .unset, .unset, .unset, .unset, .unset, .unset, .unset] [(.long ((1 : Int64) + ((ee.toInt32.toInt64) - ((ee.toInt32.toInt64) / (ss - (1 : Int64))) * (ss - (1 : Int64)))))]))
  have h_mu := own_addL own_oneL (own_remL (own_l ee (by omega)) (own_subL h_ss own_oneL (by omega) (by omega)) (by omega)) (by have := Nat.mod_lt ee (show 0 < 1 * 2 ^ j - 1 by omega); omega)
  have hM : 1 + ee % (1 * 2 ^ j - 1) < 2 ^ j := by have := Nat.mod_lt ee (show 0 < 1 * 2 ^ j - 1 by omega); omega
  generalize hMe : 1 + ee % (1 * 2 ^ j - 1) = MU at h_mu hM
  have hM1 : 1 ≤ MU := by omega
  generalize ((1 : Int64) + ((ee.toInt32.toInt64) - ((ee.toInt32.toInt64) / (ss - (1 : Int64))) * (ss - (1 : Int64)))) = mu at h_mu ⊢
  show OwnG p e below s _ _ _ (s₁.setTop (mkF m 81 #[.val (.int a), .val (.int b), .val (.int c0), .val (.int d), .val (.int e'), .val (.long tf), .second, .val (.long od'), .second, .val (.int k.toInt32), .val (.long T), .second, .val (.long fp'), .second, .val (.long F), .second, .val (.int j.toInt32), .val (.long ss), .second, .unset, .unset, .unset, .unset, .unset, .unset, .unset, .unset, .unset, .unset] [(.long mu)]))
  refine own_by (fun t kk_ => XS.lstore X0.here hx rfl (hb hby at_81) rfl (l' := #[.val (.int a), .val (.int b), .val (.int c0), .val (.int d), .val (.int e'), .val (.long tf), .second, .val (.long od'), .second, .val (.int k.toInt32), .val (.long T), .second, .val (.long fp'), .second, .val (.long F), .second, .val (.int j.toInt32), .val (.long ss), .second, .val (.long mu), .second, .unset, .unset, .unset, .unset, .unset, .unset, .unset, .unset]) rfl kk_) ?_
  show OwnG p e below s _ _ _ (s₁.setTop (mkF m 83 #[.val (.int a), .val (.int b), .val (.int c0), .val (.int d), .val (.int e'), .val (.long tf), .second, .val (.long od'), .second, .val (.int k.toInt32), .val (.long T), .second, .val (.long fp'), .second, .val (.long F), .second, .val (.int j.toInt32), .val (.long ss), .second, .val (.long mu), .second, .unset, .unset, .unset, .unset, .unset, .unset, .unset, .unset] []))
  refine own_by (fun t kk_ => XS.lload X0.here hx rfl (hb hby at_83) rfl  kk_) ?_
  show OwnG p e below s _ _ _ (s₁.setTop (mkF m 85 #[.val (.int a), .val (.int b), .val (.int c0), .val (.int d), .val (.int e'), .val (.long tf), .second, .val (.long od'), .second, .val (.int k.toInt32), .val (.long T), .second, .val (.long fp'), .second, .val (.long F), .second, .val (.int j.toInt32), .val (.long ss), .second, .val (.long mu), .second, .unset, .unset, .unset, .unset, .unset, .unset, .unset, .unset] [(.long ss)]))
  refine own_by (fun t kk_ => XS.lload X0.here hx rfl (hb hby at_85) rfl  kk_) ?_
  show OwnG p e below s _ _ _ (s₁.setTop (mkF m 87 #[.val (.int a), .val (.int b), .val (.int c0), .val (.int d), .val (.int e'), .val (.long tf), .second, .val (.long od'), .second, .val (.int k.toInt32), .val (.long T), .second, .val (.long fp'), .second, .val (.long F), .second, .val (.int j.toInt32), .val (.long ss), .second, .val (.long mu), .second, .unset, .unset, .unset, .unset, .unset, .unset, .unset, .unset] [(.long mu), (.long ss)]))
  refine own_by (fun t kk_ => XS.lsub X0.here hx rfl (hb hby at_87) rfl kk_) ?_
  show OwnG p e below s _ _ _ (s₁.setTop (mkF m 88 #[.val (.int a), .val (.int b), .val (.int c0), .val (.int d), .val (.int e'), .val (.long tf), .second, .val (.long od'), .second, .val (.int k.toInt32), .val (.long T), .second, .val (.long fp'), .second, .val (.long F), .second, .val (.int j.toInt32), .val (.long ss), .second, .val (.long mu), .second, .unset, .unset, .unset, .unset, .unset, .unset, .unset, .unset] [(.long (ss - mu))]))
  have h_l' : _ = ((2 ^ j - MU : Nat) : Int) := (own_subL h_ss h_mu (by omega) (by omega)).trans (by rw [Nat.one_mul])
  have hH : ownH TF (2 * B + 1) fp k j MU := ⟨by omega, by omega, by omega, by omega, by omega, hj1, hj2, hM1, hM⟩
  generalize (ss - mu) = l' at h_l' ⊢
  show OwnG p e below s _ _ _ (s₁.setTop (mkF m 88 #[.val (.int a), .val (.int b), .val (.int c0), .val (.int d), .val (.int e'), .val (.long tf), .second, .val (.long od'), .second, .val (.int k.toInt32), .val (.long T), .second, .val (.long fp'), .second, .val (.long F), .second, .val (.int j.toInt32), .val (.long ss), .second, .val (.long mu), .second, .unset, .unset, .unset, .unset, .unset, .unset, .unset, .unset] [(.long l')]))
  refine own_by (fun t kk_ => XS.lstore X0.here hx rfl (hb hby at_88) rfl (l' := #[.val (.int a), .val (.int b), .val (.int c0), .val (.int d), .val (.int e'), .val (.long tf), .second, .val (.long od'), .second, .val (.int k.toInt32), .val (.long T), .second, .val (.long fp'), .second, .val (.long F), .second, .val (.int j.toInt32), .val (.long ss), .second, .val (.long mu), .second, .val (.long l'), .second, .unset, .unset, .unset, .unset, .unset, .unset]) rfl kk_) ?_
  show OwnG p e below s _ _ _ (s₁.setTop (mkF m 90 #[.val (.int a), .val (.int b), .val (.int c0), .val (.int d), .val (.int e'), .val (.long tf), .second, .val (.long od'), .second, .val (.int k.toInt32), .val (.long T), .second, .val (.long fp'), .second, .val (.long F), .second, .val (.int j.toInt32), .val (.long ss), .second, .val (.long mu), .second, .val (.long l'), .second, .unset, .unset, .unset, .unset, .unset, .unset] []))
  have hpre := own_h3 (nm := Int64.ofInt (((TF * 2 ^ k + MU * fp) * MU : Nat) : Int)) (dn := Int64.ofInt ((2 ^ (k + j) : Nat) : Int)) hH h_tf h_T h_F h_mu h_l' (own_ofI (by have c5 : MU * fp ≤ 1023 * 4095 := Nat.mul_le_mul (by omega) (by omega); have c6 : TF * 2 ^ k ≤ 65535 * 2 ^ 7 := Nat.mul_le_mul (by omega) pk; have c7 : (TF * 2 ^ k + MU * fp) * MU ≤ (65535 * 2 ^ 7 + 1023 * 4095) * 1023 := Nat.mul_le_mul (by omega) (by omega); omega)) (own_ofI (by have : 2 ^ (k + j) ≤ 2 ^ 17 := Nat.pow_le_pow_right (by decide) (by omega); omega))
  obtain ⟨p1, p2, p3, p4, p5, p6, -, -⟩ := hpre
  refine own_by (fun t kk_ => XS.lload X0.here hx rfl (hb hby at_90) rfl  kk_) ?_
  show OwnG p e below s _ _ _ (s₁.setTop (mkF m 92 #[.val (.int a), .val (.int b), .val (.int c0), .val (.int d), .val (.int e'), .val (.long tf), .second, .val (.long od'), .second, .val (.int k.toInt32), .val (.long T), .second, .val (.long fp'), .second, .val (.long F), .second, .val (.int j.toInt32), .val (.long ss), .second, .val (.long mu), .second, .val (.long l'), .second, .unset, .unset, .unset, .unset, .unset, .unset] [(.long tf)]))
  refine own_by (fun t kk_ => XS.l2dS X0.here hx rfl (hb hby at_92) rfl rfl kk_) ?_
  show OwnG p e below s _ _ _ (s₁.setTop (mkF m 93 #[.val (.int a), .val (.int b), .val (.int c0), .val (.int d), .val (.int e'), .val (.long tf), .second, .val (.long od'), .second, .val (.int k.toInt32), .val (.long T), .second, .val (.long fp'), .second, .val (.long F), .second, .val (.int j.toInt32), .val (.long ss), .second, .val (.long mu), .second, .val (.long l'), .second, .unset, .unset, .unset, .unset, .unset, .unset] [(.double (FP.l2d tf))]))
  refine own_by (fun t kk_ => XS.lload X0.here hx rfl (hb hby at_93) rfl  kk_) ?_
  show OwnG p e below s _ _ _ (s₁.setTop (mkF m 95 #[.val (.int a), .val (.int b), .val (.int c0), .val (.int d), .val (.int e'), .val (.long tf), .second, .val (.long od'), .second, .val (.int k.toInt32), .val (.long T), .second, .val (.long fp'), .second, .val (.long F), .second, .val (.int j.toInt32), .val (.long ss), .second, .val (.long mu), .second, .val (.long l'), .second, .unset, .unset, .unset, .unset, .unset, .unset] [(.long l'), (.double (FP.l2d tf))]))
  refine own_by (fun t kk_ => XS.l2dS X0.here hx rfl (hb hby at_95) rfl rfl kk_) ?_
  show OwnG p e below s _ _ _ (s₁.setTop (mkF m 96 #[.val (.int a), .val (.int b), .val (.int c0), .val (.int d), .val (.int e'), .val (.long tf), .second, .val (.long od'), .second, .val (.int k.toInt32), .val (.long T), .second, .val (.long fp'), .second, .val (.long F), .second, .val (.int j.toInt32), .val (.long ss), .second, .val (.long mu), .second, .val (.long l'), .second, .unset, .unset, .unset, .unset, .unset, .unset] [(.double (FP.l2d l')), (.double (FP.l2d tf))]))
  refine own_by (fun t kk_ => XS.lload X0.here hx rfl (hb hby at_96) rfl  kk_) ?_
  show OwnG p e below s _ _ _ (s₁.setTop (mkF m 98 #[.val (.int a), .val (.int b), .val (.int c0), .val (.int d), .val (.int e'), .val (.long tf), .second, .val (.long od'), .second, .val (.int k.toInt32), .val (.long T), .second, .val (.long fp'), .second, .val (.long F), .second, .val (.int j.toInt32), .val (.long ss), .second, .val (.long mu), .second, .val (.long l'), .second, .unset, .unset, .unset, .unset, .unset, .unset] [(.long F), (.double (FP.l2d l')), (.double (FP.l2d tf))]))
  refine own_by (fun t kk_ => XS.l2dS X0.here hx rfl (hb hby at_98) rfl rfl kk_) ?_
  show OwnG p e below s _ _ _ (s₁.setTop (mkF m 99 #[.val (.int a), .val (.int b), .val (.int c0), .val (.int d), .val (.int e'), .val (.long tf), .second, .val (.long od'), .second, .val (.int k.toInt32), .val (.long T), .second, .val (.long fp'), .second, .val (.long F), .second, .val (.int j.toInt32), .val (.long ss), .second, .val (.long mu), .second, .val (.long l'), .second, .unset, .unset, .unset, .unset, .unset, .unset] [(.double (FP.l2d F)), (.double (FP.l2d l')), (.double (FP.l2d tf))]))
  refine own_by (fun t kk_ => XS.lload X0.here hx rfl (hb hby at_99) rfl  kk_) ?_
  show OwnG p e below s _ _ _ (s₁.setTop (mkF m 101 #[.val (.int a), .val (.int b), .val (.int c0), .val (.int d), .val (.int e'), .val (.long tf), .second, .val (.long od'), .second, .val (.int k.toInt32), .val (.long T), .second, .val (.long fp'), .second, .val (.long F), .second, .val (.int j.toInt32), .val (.long ss), .second, .val (.long mu), .second, .val (.long l'), .second, .unset, .unset, .unset, .unset, .unset, .unset] [(.long T), (.double (FP.l2d F)), (.double (FP.l2d l')), (.double (FP.l2d tf))]))
  refine own_by (fun t kk_ => XS.l2dS X0.here hx rfl (hb hby at_101) rfl rfl kk_) ?_
  show OwnG p e below s _ _ _ (s₁.setTop (mkF m 102 #[.val (.int a), .val (.int b), .val (.int c0), .val (.int d), .val (.int e'), .val (.long tf), .second, .val (.long od'), .second, .val (.int k.toInt32), .val (.long T), .second, .val (.long fp'), .second, .val (.long F), .second, .val (.int j.toInt32), .val (.long ss), .second, .val (.long mu), .second, .val (.long l'), .second, .unset, .unset, .unset, .unset, .unset, .unset] [(.double (FP.l2d T)), (.double (FP.l2d F)), (.double (FP.l2d l')), (.double (FP.l2d tf))]))
  refine own_by (fun t kk_ => XS.lload X0.here hx rfl (hb hby at_102) rfl  kk_) ?_
  show OwnG p e below s _ _ _ (s₁.setTop (mkF m 104 #[.val (.int a), .val (.int b), .val (.int c0), .val (.int d), .val (.int e'), .val (.long tf), .second, .val (.long od'), .second, .val (.int k.toInt32), .val (.long T), .second, .val (.long fp'), .second, .val (.long F), .second, .val (.int j.toInt32), .val (.long ss), .second, .val (.long mu), .second, .val (.long l'), .second, .unset, .unset, .unset, .unset, .unset, .unset] [(.long mu), (.double (FP.l2d T)), (.double (FP.l2d F)), (.double (FP.l2d l')), (.double (FP.l2d tf))]))
  refine own_by (fun t kk_ => XS.l2dS X0.here hx rfl (hb hby at_104) rfl rfl kk_) ?_
  show OwnG p e below s _ _ _ (s₁.setTop (mkF m 105 #[.val (.int a), .val (.int b), .val (.int c0), .val (.int d), .val (.int e'), .val (.long tf), .second, .val (.long od'), .second, .val (.int k.toInt32), .val (.long T), .second, .val (.long fp'), .second, .val (.long F), .second, .val (.int j.toInt32), .val (.long ss), .second, .val (.long mu), .second, .val (.long l'), .second, .unset, .unset, .unset, .unset, .unset, .unset] [(.double (FP.l2d mu)), (.double (FP.l2d T)), (.double (FP.l2d F)), (.double (FP.l2d l')), (.double (FP.l2d tf))]))
  obtain ⟨_, _, ⟨T1, L1, k1, n1⟩, -, X1, ⟨Lc1, hQ1, l1, y1, z1⟩, st1⟩ := Jvm.LawKit.callS X0 hx (y := (⟨"com/example/iota_ranker/iotaranker/dfr/SecondNormalisations", "h3", "(DDDDD)D"⟩ : MethodName)) hown (mvT hZ (hw _ (List.mem_of_getElem? (i := 3) rfl))) (mvT hZ (hw _ (List.mem_of_getElem? (i := 4) rfl))) (mvT hZ (hw _ (List.mem_of_getElem? (i := 5) rfl))) (mvT hZ (hw _ (List.mem_of_getElem? (i := 6) rfl))) (by decide) (backOf (W := 0) (rm1 l Z a0 hw [] tf l' F T mu h0 n0 Z0 p1 p2 p3 p4 p5 p6) hZ (hw _ (List.mem_of_getElem? (i := 6) rfl)) (hw _ (List.mem_of_getElem? (i := 5) rfl)) (by decide) (by decide)) (g := (mkF m 105 #[.val (.int a), .val (.int b), .val (.int c0), .val (.int d), .val (.int e'), .val (.long tf), .second, .val (.long od'), .second, .val (.int k.toInt32), .val (.long T), .second, .val (.long fp'), .second, .val (.long F), .second, .val (.int j.toInt32), .val (.long ss), .second, .val (.long mu), .second, .val (.long l'), .second, .unset, .unset, .unset, .unset, .unset, .unset] [(.double (FP.l2d mu)), (.double (FP.l2d T)), (.double (FP.l2d F)), (.double (FP.l2d l')), (.double (FP.l2d tf))])) rfl (by rw [hml]; rfl) (argsL := [(.double (FP.l2d tf)), (.double (FP.l2d l')), (.double (FP.l2d F)), (.double (FP.l2d T)), (.double (FP.l2d mu))]) (rest := []) (lenOf pd_0 rfl) rfl (by show 2 * 0 + _ ≤ _; exact Nat.le_of_eq rfl) (hb hby at_105) (fun _ _ => ⟨rfl, e0, (by decide : 0 + 0 ≤ _), (by decide : 0 + 0 ≤ _)⟩)
  dsimp only [Pt.U, Pt.locs, Pt.cells, Pt.slots] at X1 l1 y1 z1 st1 hQ1
  subst l1 y1 z1
  refine own_by (fun t kk_ => st1 _ kk_) ?_
  obtain ⟨rfl, N1q, hh1⟩ := hQ1
  have N1 := Fr.app N0 N1q
  have sz1 : n0 ≤ T1.heap.size := by rw [hh1]; exact Z0
  show OwnG p e below s _ _ _ (T1.setTop (mkF m 108 #[.val (.int a), .val (.int b), .val (.int c0), .val (.int d), .val (.int e'), .val (.long tf), .second, .val (.long od'), .second, .val (.int k.toInt32), .val (.long T), .second, .val (.long fp'), .second, .val (.long F), .second, .val (.int j.toInt32), .val (.long ss), .second, .val (.long mu), .second, .val (.long l'), .second, .unset, .unset, .unset, .unset, .unset, .unset] [(.double (own_got tf l' F T mu))]))
  refine own_by (fun t kk_ => XS.dstore X1.here hx rfl (hb hby at_108) rfl (l' := #[.val (.int a), .val (.int b), .val (.int c0), .val (.int d), .val (.int e'), .val (.long tf), .second, .val (.long od'), .second, .val (.int k.toInt32), .val (.long T), .second, .val (.long fp'), .second, .val (.long F), .second, .val (.int j.toInt32), .val (.long ss), .second, .val (.long mu), .second, .val (.long l'), .second, .val (.double (own_got tf l' F T mu)), .second, .unset, .unset, .unset, .unset]) rfl kk_) ?_
  show OwnG p e below s _ _ _ (T1.setTop (mkF m 110 #[.val (.int a), .val (.int b), .val (.int c0), .val (.int d), .val (.int e'), .val (.long tf), .second, .val (.long od'), .second, .val (.int k.toInt32), .val (.long T), .second, .val (.long fp'), .second, .val (.long F), .second, .val (.int j.toInt32), .val (.long ss), .second, .val (.long mu), .second, .val (.long l'), .second, .val (.double (own_got tf l' F T mu)), .second, .unset, .unset, .unset, .unset] []))
  refine own_by (fun t kk_ => XS.lload X1.here hx rfl (hb hby at_110) rfl  kk_) ?_
  show OwnG p e below s _ _ _ (T1.setTop (mkF m 112 #[.val (.int a), .val (.int b), .val (.int c0), .val (.int d), .val (.int e'), .val (.long tf), .second, .val (.long od'), .second, .val (.int k.toInt32), .val (.long T), .second, .val (.long fp'), .second, .val (.long F), .second, .val (.int j.toInt32), .val (.long ss), .second, .val (.long mu), .second, .val (.long l'), .second, .val (.double (own_got tf l' F T mu)), .second, .unset, .unset, .unset, .unset] [(.long tf)]))
  refine own_by (fun t kk_ => XS.iload X1.here hx rfl (hb hby at_112) rfl  kk_) ?_
  show OwnG p e below s _ _ _ (T1.setTop (mkF m 114 #[.val (.int a), .val (.int b), .val (.int c0), .val (.int d), .val (.int e'), .val (.long tf), .second, .val (.long od'), .second, .val (.int k.toInt32), .val (.long T), .second, .val (.long fp'), .second, .val (.long F), .second, .val (.int j.toInt32), .val (.long ss), .second, .val (.long mu), .second, .val (.long l'), .second, .val (.double (own_got tf l' F T mu)), .second, .unset, .unset, .unset, .unset] [(.int k.toInt32), (.long tf)]))
  refine own_by (fun t kk_ => XS.lshl X1.here hx rfl (hb hby at_114) rfl kk_) ?_
  show OwnG p e below s _ _ _ (T1.setTop (mkF m 115 #[.val (.int a), .val (.int b), .val (.int c0), .val (.int d), .val (.int e'), .val (.long tf), .second, .val (.long od'), .second, .val (.int k.toInt32), .val (.long T), .second, .val (.long fp'), .second, .val (.long F), .second, .val (.int j.toInt32), .val (.long ss), .second, .val (.long mu), .second, .val (.long l'), .second, .val (.double (own_got tf l' F T mu)), .second, .unset, .unset, .unset, .unset] [(.long (tf <<< (k.toInt32 &&& 0x3f).toInt64))]))
  refine own_by (fun t kk_ => XS.lload X1.here hx rfl (hb hby at_115) rfl  kk_) ?_
  show OwnG p e below s _ _ _ (T1.setTop (mkF m 117 #[.val (.int a), .val (.int b), .val (.int c0), .val (.int d), .val (.int e'), .val (.long tf), .second, .val (.long od'), .second, .val (.int k.toInt32), .val (.long T), .second, .val (.long fp'), .second, .val (.long F), .second, .val (.int j.toInt32), .val (.long ss), .second, .val (.long mu), .second, .val (.long l'), .second, .val (.double (own_got tf l' F T mu)), .second, .unset, .unset, .unset, .unset] [(.long mu), (.long (tf <<< (k.toInt32 &&& 0x3f).toInt64))]))
  refine own_by (fun t kk_ => XS.lload X1.here hx rfl (hb hby at_117) rfl  kk_) ?_
  show OwnG p e below s _ _ _ (T1.setTop (mkF m 119 #[.val (.int a), .val (.int b), .val (.int c0), .val (.int d), .val (.int e'), .val (.long tf), .second, .val (.long od'), .second, .val (.int k.toInt32), .val (.long T), .second, .val (.long fp'), .second, .val (.long F), .second, .val (.int j.toInt32), .val (.long ss), .second, .val (.long mu), .second, .val (.long l'), .second, .val (.double (own_got tf l' F T mu)), .second, .unset, .unset, .unset, .unset] [(.long fp'), (.long mu), (.long (tf <<< (k.toInt32 &&& 0x3f).toInt64))]))
  refine own_by (fun t kk_ => XS.lmul X1.here hx rfl (hb hby at_119) rfl kk_) ?_
  show OwnG p e below s _ _ _ (T1.setTop (mkF m 120 #[.val (.int a), .val (.int b), .val (.int c0), .val (.int d), .val (.int e'), .val (.long tf), .second, .val (.long od'), .second, .val (.int k.toInt32), .val (.long T), .second, .val (.long fp'), .second, .val (.long F), .second, .val (.int j.toInt32), .val (.long ss), .second, .val (.long mu), .second, .val (.long l'), .second, .val (.double (own_got tf l' F T mu)), .second, .unset, .unset, .unset, .unset] [(.long (mu * fp')), (.long (tf <<< (k.toInt32 &&& 0x3f).toInt64))]))
  refine own_by (fun t kk_ => XS.ladd X1.here hx rfl (hb hby at_120) rfl kk_) ?_
  show OwnG p e below s _ _ _ (T1.setTop (mkF m 121 #[.val (.int a), .val (.int b), .val (.int c0), .val (.int d), .val (.int e'), .val (.long tf), .second, .val (.long od'), .second, .val (.int k.toInt32), .val (.long T), .second, .val (.long fp'), .second, .val (.long F), .second, .val (.int j.toInt32), .val (.long ss), .second, .val (.long mu), .second, .val (.long l'), .second, .val (.double (own_got tf l' F T mu)), .second, .unset, .unset, .unset, .unset] [(.long ((tf <<< (k.toInt32 &&& 0x3f).toInt64) + (mu * fp')))]))
  have h_nu := own_addL (own_shlL (k := k) h_tf (by omega) (by have c6 : TF * 2 ^ k ≤ 65535 * 2 ^ 7 := Nat.mul_le_mul (by omega) pk; omega)) (own_mulL h_mu h_fp' (by have c5 : MU * fp ≤ 1023 * 4095 := Nat.mul_le_mul (by omega) (by omega); omega)) (by have c6 : TF * 2 ^ k ≤ 65535 * 2 ^ 7 := Nat.mul_le_mul (by omega) pk; have c5 : MU * fp ≤ 1023 * 4095 := Nat.mul_le_mul (by omega) (by omega); omega)
  generalize ((tf <<< (k.toInt32 &&& 0x3f).toInt64) + (mu * fp')) = nu at h_nu ⊢
  show OwnG p e below s _ _ _ (T1.setTop (mkF m 121 #[.val (.int a), .val (.int b), .val (.int c0), .val (.int d), .val (.int e'), .val (.long tf), .second, .val (.long od'), .second, .val (.int k.toInt32), .val (.long T), .second, .val (.long fp'), .second, .val (.long F), .second, .val (.int j.toInt32), .val (.long ss), .second, .val (.long mu), .second, .val (.long l'), .second, .val (.double (own_got tf l' F T mu)), .second, .unset, .unset, .unset, .unset] [(.long nu)]))
  refine own_by (fun t kk_ => XS.lstore X1.here hx rfl (hb hby at_121) rfl (l' := #[.val (.int a), .val (.int b), .val (.int c0), .val (.int d), .val (.int e'), .val (.long tf), .second, .val (.long od'), .second, .val (.int k.toInt32), .val (.long T), .second, .val (.long fp'), .second, .val (.long F), .second, .val (.int j.toInt32), .val (.long ss), .second, .val (.long mu), .second, .val (.long l'), .second, .val (.double (own_got tf l' F T mu)), .second, .val (.long nu), .second, .unset, .unset]) rfl kk_) ?_
  show OwnG p e below s _ _ _ (T1.setTop (mkF m 123 #[.val (.int a), .val (.int b), .val (.int c0), .val (.int d), .val (.int e'), .val (.long tf), .second, .val (.long od'), .second, .val (.int k.toInt32), .val (.long T), .second, .val (.long fp'), .second, .val (.long F), .second, .val (.int j.toInt32), .val (.long ss), .second, .val (.long mu), .second, .val (.long l'), .second, .val (.double (own_got tf l' F T mu)), .second, .val (.long nu), .second, .unset, .unset] []))
  refine own_by (fun t kk_ => XS.lload X1.here hx rfl (hb hby at_123) rfl  kk_) ?_
  show OwnG p e below s _ _ _ (T1.setTop (mkF m 125 #[.val (.int a), .val (.int b), .val (.int c0), .val (.int d), .val (.int e'), .val (.long tf), .second, .val (.long od'), .second, .val (.int k.toInt32), .val (.long T), .second, .val (.long fp'), .second, .val (.long F), .second, .val (.int j.toInt32), .val (.long ss), .second, .val (.long mu), .second, .val (.long l'), .second, .val (.double (own_got tf l' F T mu)), .second, .val (.long nu), .second, .unset, .unset] [(.long nu)]))
  refine own_by (fun t kk_ => XS.lload X1.here hx rfl (hb hby at_125) rfl  kk_) ?_
  show OwnG p e below s _ _ _ (T1.setTop (mkF m 127 #[.val (.int a), .val (.int b), .val (.int c0), .val (.int d), .val (.int e'), .val (.long tf), .second, .val (.long od'), .second, .val (.int k.toInt32), .val (.long T), .second, .val (.long fp'), .second, .val (.long F), .second, .val (.int j.toInt32), .val (.long ss), .second, .val (.long mu), .second, .val (.long l'), .second, .val (.double (own_got tf l' F T mu)), .second, .val (.long nu), .second, .unset, .unset] [(.long mu), (.long nu)]))
  refine own_by (fun t kk_ => XS.lmul X1.here hx rfl (hb hby at_127) rfl kk_) ?_
  show OwnG p e below s _ _ _ (T1.setTop (mkF m 128 #[.val (.int a), .val (.int b), .val (.int c0), .val (.int d), .val (.int e'), .val (.long tf), .second, .val (.long od'), .second, .val (.int k.toInt32), .val (.long T), .second, .val (.long fp'), .second, .val (.long F), .second, .val (.int j.toInt32), .val (.long ss), .second, .val (.long mu), .second, .val (.long l'), .second, .val (.double (own_got tf l' F T mu)), .second, .val (.long nu), .second, .unset, .unset] [(.long (nu * mu))]))
  have h_nm := own_mulL h_nu h_mu (by have c6 : TF * 2 ^ k ≤ 65535 * 2 ^ 7 := Nat.mul_le_mul (by omega) pk; have c5 : MU * fp ≤ 1023 * 4095 := Nat.mul_le_mul (by omega) (by omega); have c7 : (TF * 2 ^ k + MU * fp) * MU ≤ (65535 * 2 ^ 7 + 1023 * 4095) * 1023 := Nat.mul_le_mul (by omega) (by omega); omega)
  generalize (nu * mu) = nm at h_nm ⊢
  show OwnG p e below s _ _ _ (T1.setTop (mkF m 128 #[.val (.int a), .val (.int b), .val (.int c0), .val (.int d), .val (.int e'), .val (.long tf), .second, .val (.long od'), .second, .val (.int k.toInt32), .val (.long T), .second, .val (.long fp'), .second, .val (.long F), .second, .val (.int j.toInt32), .val (.long ss), .second, .val (.long mu), .second, .val (.long l'), .second, .val (.double (own_got tf l' F T mu)), .second, .val (.long nu), .second, .unset, .unset] [(.long nm)]))
  refine own_by (fun t kk_ => XS.l2dS X1.here hx rfl (hb hby at_128) rfl rfl kk_) ?_
  show OwnG p e below s _ _ _ (T1.setTop (mkF m 129 #[.val (.int a), .val (.int b), .val (.int c0), .val (.int d), .val (.int e'), .val (.long tf), .second, .val (.long od'), .second, .val (.int k.toInt32), .val (.long T), .second, .val (.long fp'), .second, .val (.long F), .second, .val (.int j.toInt32), .val (.long ss), .second, .val (.long mu), .second, .val (.long l'), .second, .val (.double (own_got tf l' F T mu)), .second, .val (.long nu), .second, .unset, .unset] [(.double (FP.l2d nm))]))
  refine own_by (fun t kk_ => XS.lconst X1.here hx rfl (hb hby at_129) kk_) ?_
  show OwnG p e below s _ _ _ (T1.setTop (mkF m 130 #[.val (.int a), .val (.int b), .val (.int c0), .val (.int d), .val (.int e'), .val (.long tf), .second, .val (.long od'), .second, .val (.int k.toInt32), .val (.long T), .second, .val (.long fp'), .second, .val (.long F), .second, .val (.int j.toInt32), .val (.long ss), .second, .val (.long mu), .second, .val (.long l'), .second, .val (.double (own_got tf l' F T mu)), .second, .val (.long nu), .second, .unset, .unset] [(.long (1 : Int64)), (.double (FP.l2d nm))]))
  refine own_by (fun t kk_ => XS.iload X1.here hx rfl (hb hby at_130) rfl  kk_) ?_
  show OwnG p e below s _ _ _ (T1.setTop (mkF m 132 #[.val (.int a), .val (.int b), .val (.int c0), .val (.int d), .val (.int e'), .val (.long tf), .second, .val (.long od'), .second, .val (.int k.toInt32), .val (.long T), .second, .val (.long fp'), .second, .val (.long F), .second, .val (.int j.toInt32), .val (.long ss), .second, .val (.long mu), .second, .val (.long l'), .second, .val (.double (own_got tf l' F T mu)), .second, .val (.long nu), .second, .unset, .unset] [(.int k.toInt32), (.long (1 : Int64)), (.double (FP.l2d nm))]))
  refine own_by (fun t kk_ => XS.iload X1.here hx rfl (hb hby at_132) rfl  kk_) ?_
  show OwnG p e below s _ _ _ (T1.setTop (mkF m 134 #[.val (.int a), .val (.int b), .val (.int c0), .val (.int d), .val (.int e'), .val (.long tf), .second, .val (.long od'), .second, .val (.int k.toInt32), .val (.long T), .second, .val (.long fp'), .second, .val (.long F), .second, .val (.int j.toInt32), .val (.long ss), .second, .val (.long mu), .second, .val (.long l'), .second, .val (.double (own_got tf l' F T mu)), .second, .val (.long nu), .second, .unset, .unset] [(.int j.toInt32), (.int k.toInt32), (.long (1 : Int64)), (.double (FP.l2d nm))]))
  refine own_by (fun t kk_ => XS.iadd X1.here hx rfl (hb hby at_134) rfl kk_) ?_
  show OwnG p e below s _ _ _ (T1.setTop (mkF m 135 #[.val (.int a), .val (.int b), .val (.int c0), .val (.int d), .val (.int e'), .val (.long tf), .second, .val (.long od'), .second, .val (.int k.toInt32), .val (.long T), .second, .val (.long fp'), .second, .val (.long F), .second, .val (.int j.toInt32), .val (.long ss), .second, .val (.long mu), .second, .val (.long l'), .second, .val (.double (own_got tf l' F T mu)), .second, .val (.long nu), .second, .unset, .unset] [(.int (k.toInt32 + j.toInt32)), (.long (1 : Int64)), (.double (FP.l2d nm))]))
  rw [own_addN]
  show OwnG p e below s _ _ _ (T1.setTop (mkF m 135 #[.val (.int a), .val (.int b), .val (.int c0), .val (.int d), .val (.int e'), .val (.long tf), .second, .val (.long od'), .second, .val (.int k.toInt32), .val (.long T), .second, .val (.long fp'), .second, .val (.long F), .second, .val (.int j.toInt32), .val (.long ss), .second, .val (.long mu), .second, .val (.long l'), .second, .val (.double (own_got tf l' F T mu)), .second, .val (.long nu), .second, .unset, .unset] [(.int (k + j).toInt32), (.long (1 : Int64)), (.double (FP.l2d nm))]))
  refine own_by (fun t kk_ => XS.lshl X1.here hx rfl (hb hby at_135) rfl kk_) ?_
  show OwnG p e below s _ _ _ (T1.setTop (mkF m 136 #[.val (.int a), .val (.int b), .val (.int c0), .val (.int d), .val (.int e'), .val (.long tf), .second, .val (.long od'), .second, .val (.int k.toInt32), .val (.long T), .second, .val (.long fp'), .second, .val (.long F), .second, .val (.int j.toInt32), .val (.long ss), .second, .val (.long mu), .second, .val (.long l'), .second, .val (.double (own_got tf l' F T mu)), .second, .val (.long nu), .second, .unset, .unset] [(.long ((1 : Int64) <<< ((k + j).toInt32 &&& 0x3f).toInt64)), (.double (FP.l2d nm))]))
  have h_dn := own_shlL (k := k + j) own_oneL (by omega) (by have : 2 ^ (k + j) ≤ 2 ^ 17 := Nat.pow_le_pow_right (by decide) (by omega); omega)
  generalize ((1 : Int64) <<< ((k + j).toInt32 &&& 0x3f).toInt64) = dn at h_dn ⊢
  show OwnG p e below s _ _ _ (T1.setTop (mkF m 136 #[.val (.int a), .val (.int b), .val (.int c0), .val (.int d), .val (.int e'), .val (.long tf), .second, .val (.long od'), .second, .val (.int k.toInt32), .val (.long T), .second, .val (.long fp'), .second, .val (.long F), .second, .val (.int j.toInt32), .val (.long ss), .second, .val (.long mu), .second, .val (.long l'), .second, .val (.double (own_got tf l' F T mu)), .second, .val (.long nu), .second, .unset, .unset] [(.long dn), (.double (FP.l2d nm))]))
  have h_dn' : dn.toInt = ((2 ^ (k + j) : Nat) : Int) := by rw [h_dn, Nat.one_mul]
  obtain ⟨n1, n2, n3, n4, n5, n6, n7, n8⟩ := own_h3 hH h_tf h_T h_F h_mu h_l' h_nm h_dn'
  refine own_by (fun t kk_ => XS.l2dS X1.here hx rfl (hb hby at_136) rfl rfl kk_) ?_
  show OwnG p e below s _ _ _ (T1.setTop (mkF m 137 #[.val (.int a), .val (.int b), .val (.int c0), .val (.int d), .val (.int e'), .val (.long tf), .second, .val (.long od'), .second, .val (.int k.toInt32), .val (.long T), .second, .val (.long fp'), .second, .val (.long F), .second, .val (.int j.toInt32), .val (.long ss), .second, .val (.long mu), .second, .val (.long l'), .second, .val (.double (own_got tf l' F T mu)), .second, .val (.long nu), .second, .unset, .unset] [(.double (FP.l2d dn)), (.double (FP.l2d nm))]))
  refine own_by (fun t kk_ => XS.ddivS X1.here hx rfl (hb hby at_137) rfl n7 rfl kk_) ?_
  show OwnG p e below s _ _ _ (T1.setTop (mkF m 138 #[.val (.int a), .val (.int b), .val (.int c0), .val (.int d), .val (.int e'), .val (.long tf), .second, .val (.long od'), .second, .val (.int k.toInt32), .val (.long T), .second, .val (.long fp'), .second, .val (.long F), .second, .val (.int j.toInt32), .val (.long ss), .second, .val (.long mu), .second, .val (.long l'), .second, .val (.double (own_got tf l' F T mu)), .second, .val (.long nu), .second, .unset, .unset] [(.double (FP.ddiv (FP.l2d nm) (FP.l2d dn)))]))
  refine own_by (fun t kk_ => XS.dstore X1.here hx rfl (hb hby at_138) rfl (l' := #[.val (.int a), .val (.int b), .val (.int c0), .val (.int d), .val (.int e'), .val (.long tf), .second, .val (.long od'), .second, .val (.int k.toInt32), .val (.long T), .second, .val (.long fp'), .second, .val (.long F), .second, .val (.int j.toInt32), .val (.long ss), .second, .val (.long mu), .second, .val (.long l'), .second, .val (.double (own_got tf l' F T mu)), .second, .val (.long nu), .second, .val (.double (FP.ddiv (FP.l2d nm) (FP.l2d dn))), .second]) rfl kk_) ?_
  show OwnG p e below s _ _ _ (T1.setTop (mkF m 140 #[.val (.int a), .val (.int b), .val (.int c0), .val (.int d), .val (.int e'), .val (.long tf), .second, .val (.long od'), .second, .val (.int k.toInt32), .val (.long T), .second, .val (.long fp'), .second, .val (.long F), .second, .val (.int j.toInt32), .val (.long ss), .second, .val (.long mu), .second, .val (.long l'), .second, .val (.double (own_got tf l' F T mu)), .second, .val (.long nu), .second, .val (.double (FP.ddiv (FP.l2d nm) (FP.l2d dn))), .second] []))
  refine own_by (fun t kk_ => XS.dload X1.here hx rfl (hb hby at_140) rfl  kk_) ?_
  show OwnG p e below s _ _ _ (T1.setTop (mkF m 142 #[.val (.int a), .val (.int b), .val (.int c0), .val (.int d), .val (.int e'), .val (.long tf), .second, .val (.long od'), .second, .val (.int k.toInt32), .val (.long T), .second, .val (.long fp'), .second, .val (.long F), .second, .val (.int j.toInt32), .val (.long ss), .second, .val (.long mu), .second, .val (.long l'), .second, .val (.double (own_got tf l' F T mu)), .second, .val (.long nu), .second, .val (.double (FP.ddiv (FP.l2d nm) (FP.l2d dn))), .second] [(.double (own_got tf l' F T mu))]))
  refine own_by (fun t kk_ => XS.dload X1.here hx rfl (hb hby at_142) rfl  kk_) ?_
  show OwnG p e below s _ _ _ (T1.setTop (mkF m 144 #[.val (.int a), .val (.int b), .val (.int c0), .val (.int d), .val (.int e'), .val (.long tf), .second, .val (.long od'), .second, .val (.int k.toInt32), .val (.long T), .second, .val (.long fp'), .second, .val (.long F), .second, .val (.int j.toInt32), .val (.long ss), .second, .val (.long mu), .second, .val (.long l'), .second, .val (.double (own_got tf l' F T mu)), .second, .val (.long nu), .second, .val (.double (FP.ddiv (FP.l2d nm) (FP.l2d dn))), .second] [(.double (FP.ddiv (FP.l2d nm) (FP.l2d dn))), (.double (own_got tf l' F T mu))]))
  refine own_by (fun t kk_ => XS.dcmpS X1.here hx rfl (hb hby at_144) rfl rfl kk_) ?_
  show OwnG p e below s _ _ _ (T1.setTop (mkF m 145 #[.val (.int a), .val (.int b), .val (.int c0), .val (.int d), .val (.int e'), .val (.long tf), .second, .val (.long od'), .second, .val (.int k.toInt32), .val (.long T), .second, .val (.long fp'), .second, .val (.long F), .second, .val (.int j.toInt32), .val (.long ss), .second, .val (.long mu), .second, .val (.long l'), .second, .val (.double (own_got tf l' F T mu)), .second, .val (.long nu), .second, .val (.double (FP.ddiv (FP.l2d nm) (FP.l2d dn))), .second] [(.int (cmpValue (FP.dcmp (own_got tf l' F T mu) (FP.ddiv (FP.l2d nm) (FP.l2d dn))) .l))]))
  refine own_by (fun t kk_ => XS.ifNo X1.here hx rfl (hb hby at_145) rfl ((if0 _ _).trans (teq n8).2) kk_) ?_
  show OwnG p e below s _ _ _ (T1.setTop (mkF m 148 #[.val (.int a), .val (.int b), .val (.int c0), .val (.int d), .val (.int e'), .val (.long tf), .second, .val (.long od'), .second, .val (.int k.toInt32), .val (.long T), .second, .val (.long fp'), .second, .val (.long F), .second, .val (.int j.toInt32), .val (.long ss), .second, .val (.long mu), .second, .val (.long l'), .second, .val (.double (own_got tf l' F T mu)), .second, .val (.long nu), .second, .val (.double (FP.ddiv (FP.l2d nm) (FP.l2d dn))), .second] []))
  refine own_by (fun t kk_ => XS.iconst X1.here hx rfl (hb hby at_148) kk_) ?_
  show OwnG p e below s _ _ _ (T1.setTop (mkF m 149 #[.val (.int a), .val (.int b), .val (.int c0), .val (.int d), .val (.int e'), .val (.long tf), .second, .val (.long od'), .second, .val (.int k.toInt32), .val (.long T), .second, .val (.long fp'), .second, .val (.long F), .second, .val (.int j.toInt32), .val (.long ss), .second, .val (.long mu), .second, .val (.long l'), .second, .val (.double (own_got tf l' F T mu)), .second, .val (.long nu), .second, .val (.double (FP.ddiv (FP.l2d nm) (FP.l2d dn))), .second] [(.int (1 : Int32))]))
  refine own_by (fun t kk_ => XS.goto X1.here hx rfl (pc0 := 149) (pc' := 153) rfl (hb hby at_149) (by decide) (by decide) kk_) ?_
  show OwnG p e below s _ _ _ (T1.setTop (mkF m 153 #[.val (.int a), .val (.int b), .val (.int c0), .val (.int d), .val (.int e'), .val (.long tf), .second, .val (.long od'), .second, .val (.int k.toInt32), .val (.long T), .second, .val (.long fp'), .second, .val (.long F), .second, .val (.int j.toInt32), .val (.long ss), .second, .val (.long mu), .second, .val (.long l'), .second, .val (.double (own_got tf l' F T mu)), .second, .val (.long nu), .second, .val (.double (FP.ddiv (FP.l2d nm) (FP.l2d dn))), .second] [(.int (1 : Int32))]))
  exact own_outN X1 hx hret (by simp) hlk (hb hby at_153) rfl (⟨rfl, N1⟩) (by decide) (by decide)
set_option maxRecDepth 65536 in
set_option maxHeartbeats 40000000 in
theorem comes_1 {Post : Tables → Env → Array Value → State → Outcome → State → Prop} (hpost : ∀ tb e args s v u, (limb_1_1.after args s (.returned v) u = true ∧ limb_1_2.after args s (.returned v) u = true ∧ True) → FrameEnd s (.returned v) u (Jvm.fieldLocs frame_1_writes args s ++ Jvm.arrayLocs frame_1_arrays args s ++ Jvm.staticLocs frame_1_statics s) 0 0 → Post tb e args s (.returned v) u) :
    ArmFor flags0 classFile x code maxLocals ret World_1 tables_1 room_1 Calls_1 rest_1 Pre_1 Post := by
  intro l hfl _ _ p e ha hc hk s m args below hf hA hF happ hP
  obtain ⟨hcalls, hrest, hpre⟩ := hP
  obtain ⟨-, -, -, hnamed, -, -, -, hat⟩ := (Spec.applies_iff hf).mp happ
  obtain ⟨hg, hn⟩ := and_e (Cond.before_iff.mp (show (Jvm.Cond.and given_1 narrow_1).before args s = true from hpre))
  obtain ⟨gc, gr0⟩ := and_e hg
  obtain ⟨ga0, gr1⟩ := and_e gr0
  obtain ⟨ga1, gr2⟩ := and_e gr1
  obtain ⟨ga2, gr3⟩ := and_e gr2
  obtain ⟨ga3, gr4⟩ := and_e gr3
  obtain ⟨w0, w1, w2, w3, w4, rfl⟩ : ∃ w0 w1 w2 w3 w4 : Value, args = #[w0, w1, w2, w3, w4] := by
    have hs : args.size = 5 := by simpa [Cond.value, given_1] using gc
    obtain ⟨L⟩ := args
    match L, hs with
    | [w0, w1, w2, w3, w4], _ => exact ⟨w0, w1, w2, w3, w4, rfl⟩
  have hw := fun d (hd : d ∈ tables_1) => atoms_spec (ws := Jvm.Cond.code x code maxLocals ret :: tables_1) hat d (List.mem_cons_of_mem _ hd)
  obtain ⟨i0, ei0⟩ := is_v ga0
  obtain rfl : w0 = (.int i0) := Option.some.inj ei0
  obtain ⟨i1, ei1⟩ := is_v ga1
  obtain rfl : w1 = (.int i1) := Option.some.inj ei1
  obtain ⟨i2, ei2⟩ := is_v ga2
  obtain rfl : w2 = (.int i2) := Option.some.inj ei2
  obtain ⟨i3, ei3⟩ := is_v ga3
  obtain rfl : w3 = (.int i3) := Option.some.inj ei3
  obtain ⟨i4, ei4⟩ := is_v gr4
  obtain rfl : w4 = (.int i4) := Option.some.inj ei4
  obtain ⟨n, o, h1, h2, h3, _, L, rfl, ⟨rfl, N⟩, hq⟩ := rm0 l s _ hw tables_1 i0 i1 i2 i3 i4 s.heap s.heap.size (Nat.le_refl _) p e ha hc hk s m _ below hf ((Spec.applies_iff_loose hf).mp happ).1 ⟨rfl, State.Warmed39.refl s, rfl⟩ trivial
  refine ⟨n, _, h1, h2, h3, hpost _ _ _ _ _ _ ⟨Cond.after_iff.mpr rfl, Cond.after_iff.mpr (eq_i res_at (Term.int_eval (1)) rfl), trivial⟩ ⟨hq.1, hq.2.1, (hq.2.2.sift fun y hy => Or.inr (N y hy)).mono (by decide) (by decide)⟩⟩
theorem main_1_1 : Claimed_1_1 := comes_1 fun _ _ _ _ _ _ h hF => ⟨h.1, hF⟩
theorem main_1_2 : Claimed_1_2 := comes_1 fun _ _ _ _ _ _ h hF => ⟨h.2.1, hF⟩
end Jvm.Pilot.@@N@@
namespace Jvm.Pilot.@@N@@
open Jvm Jvm.ClassFile Sem Op Lib Jvm.Free Jvm.Stand Jvm.Pilot.@@N@@.Jvm.D
/-! MADE BY PROGRAM (witnessworld.py) out of the Statement's table words and the real class files: 9 classes; the members and pool entries that the words name. The judged class is class 1, her method 1. -/
namespace start1
open Jvm.ClassFile
def u (s : String) : CpInfo := .utf8 (stringToUtf16 s)
/-- a pool by its gaps: so many unusable entries, then the entry; so many at the end -/
def gap : Nat → List CpInfo → List CpInfo
  | 0, r => r
  | n + 1, r => .unusable :: gap n r
def poolList (es : List (Nat × CpInfo)) (last : Nat) : List CpInfo := es.foldr (fun e r => gap e.1 (e.2 :: r)) (gap last [])
def pool (es : List (Nat × CpInfo)) (last : Nat) : Array CpInfo := ⟨poolList es last⟩
def fileOf (pool : Array CpInfo) (this : Nat) (attrs : Array Attribute := #[]) (ms : Array MethodInfo := #[]) (fl : Nat := 33) (sup : Nat := 0) (ifs : Array Nat := #[]) (fds : Array FieldInfo := #[]) : ClassFile where
  minorVersion := 0
  majorVersion := 65
  constantPool := pool
  accessFlags := fl
  thisClass := this
  superClass := sup
  interfaces := ifs
  fields := fds
  methods := ms
  attributes := attrs
def plain (name : String) (sup : Option ClassId) : Class where
  name := name
  kind := .ordinary
  loader := none
  accessFlags := 33
  super := sup
  interfaces := #[]
  cf := none
  fields := #[]
  methods := #[]
  instanceTypes := #[]
  staticTypes := #[]
  resolved := #[]
  callSites := []
  init := .initialized
  statics := none
  mirror := none

def pool0 : Array CpInfo := pool [(5, u "<init>"), (0, u "()V"), (1, .class_ 10), (1, u "java/lang/Object")] 113

def k0m0 : Method := { name := "<init>", desc := "()V", sig := { parameters := [], returnType := none }, accessFlags := 1, code := none }
/-- java/lang/Object -/
def k0 : Class := { plain "java/lang/Object" none with
  accessFlags := 33
  interfaces := #[]
  cf := some (fileOf pool0 8 #[] #[{ accessFlags := 1, nameIndex := 5, descriptorIndex := 6, attributes := #[] }] 33 0 #[] #[])
  fields := #[]
  methods := #[k0m0]
  instanceTypes := #[]
  staticTypes := #[]
  resolved := Array.replicate 124 none
  statics := none }

def pool1 : Array CpInfo := pool [(2, .class_ 4), (1, u "java/lang/Object"), (0, u "<init>"), (0, u "()V"), (0, .integer 65535), (0, .long 2), (1, .integer 2147483647), (0, .methodref 12 13), (0, .class_ 14), (0, .nameAndType 15 16), (0, u "com/example/iota_ranker/iotaranker/dfr/SecondNormalisations"), (0, u "h3"), (0, u "(DDDDD)D"), (0, .class_ 18), (0, u "com/example/iota_ranker/iotaranker/dfr/SecondNormalisationsH3PinLaw"), (2, u "law"), (0, u "(IIIII)Z")] 3

def k1m0 : Method := { name := "<init>", desc := "()V", sig := { parameters := [], returnType := none }, accessFlags := 2, code := none }
def k1c1 : Code := { maxStack := 10, maxLocals := 29, code := code, exceptionTable := #[], attributes := #[] }
def k1m1 : Method := { name := "law", desc := "(IIIII)Z", sig := { parameters := [.int, .int, .int, .int, .int], returnType := some .boolean }, accessFlags := 9, code := some k1c1 }
/-- com/example/iota_ranker/iotaranker/dfr/SecondNormalisationsH3PinLaw -/
def k1 : Class := { plain "com/example/iota_ranker/iotaranker/dfr/SecondNormalisationsH3PinLaw" (some 0) with
  accessFlags := 49
  interfaces := #[]
  cf := some (fileOf pool1 17 #[] #[{ accessFlags := 2, nameIndex := 5, descriptorIndex := 6, attributes := #[] }, { accessFlags := 9, nameIndex := 21, descriptorIndex := 22, attributes := #[] }] 49 2 #[] #[])
  fields := #[]
  methods := #[k1m0, k1m1]
  instanceTypes := #[]
  staticTypes := #[]
  resolved := Array.replicate 26 none
  statics := none }

def pool2 : Array CpInfo := pool [(2, .class_ 4), (1, u "java/lang/Object"), (0, u "<init>"), (0, u "()V"), (12, .class_ 20), (0, u "com/example/iota_ranker/iotaranker/dfr/SecondNormalisations"), (6, u "h3"), (0, u "(DDDDD)D")] 3

def k2m0 : Method := { name := "<init>", desc := "()V", sig := { parameters := [], returnType := none }, accessFlags := 2, code := none }
def k2c1 : Code := { maxStack := 6, maxLocals := 10, code := prog_41_method_4_code, exceptionTable := #[], attributes := #[] }
def k2m1 : Method := { name := "h3", desc := "(DDDDD)D", sig := { parameters := [.double, .double, .double, .double, .double], returnType := some .double }, accessFlags := 9, code := some k2c1 }
/-- com/example/iota_ranker/iotaranker/dfr/SecondNormalisations -/
def k2 : Class := { plain "com/example/iota_ranker/iotaranker/dfr/SecondNormalisations" (some 0) with
  accessFlags := 49
  interfaces := #[]
  cf := some (fileOf pool2 19 #[] #[{ accessFlags := 2, nameIndex := 5, descriptorIndex := 6, attributes := #[] }, { accessFlags := 9, nameIndex := 27, descriptorIndex := 28, attributes := #[] }] 49 2 #[] #[])
  fields := #[]
  methods := #[k2m0, k2m1]
  instanceTypes := #[]
  staticTypes := #[]
  resolved := Array.replicate 32 none
  statics := none }

def pool3 : Array CpInfo := pool [(1, u "java/lang/Cloneable"), (0, .class_ 1), (0, u "java/lang/Object"), (0, .class_ 3)] 3

/-- java/lang/Cloneable -/
def k3 : Class := { plain "java/lang/Cloneable" (some 0) with
  accessFlags := 1537
  interfaces := #[]
  cf := some (fileOf pool3 2 #[] #[] 1537 4 #[] #[])
  fields := #[]
  methods := #[]
  instanceTypes := #[]
  staticTypes := #[]
  resolved := Array.replicate 8 none
  statics := none }

def pool4 : Array CpInfo := pool [(1, u "java/io/Serializable"), (0, .class_ 1), (0, u "java/lang/Object"), (0, .class_ 3)] 3

/-- java/io/Serializable -/
def k4 : Class := { plain "java/io/Serializable" (some 0) with
  accessFlags := 1537
  interfaces := #[]
  cf := some (fileOf pool4 2 #[] #[] 1537 4 #[] #[])
  fields := #[]
  methods := #[]
  instanceTypes := #[]
  staticTypes := #[]
  resolved := Array.replicate 8 none
  statics := none }

/-- the primitive byte -/
def k5 : Class := { plain "byte" none with kind := .primitive 'B', accessFlags := 0x411 }
/-- [B -/
def k6 : Class := { plain "[B" (some 0) with kind := .array 5 .byte, interfaces := #[3, 4], accessFlags := 1041 }

/-- the primitive int -/
def k7 : Class := { plain "int" none with kind := .primitive 'I', accessFlags := 0x411 }
/-- [I -/
def k8 : Class := { plain "[I" (some 0) with kind := .array 7 .int, interfaces := #[3, 4], accessFlags := 1041 }

def heap : Heap := #[]
def classes : Array Class := #[k0, k1, k2, k3, k4, k5, k6, k7, k8]
def interned : List (Array UInt16 × Addr) := []
def slotsUsed : Nat := 0
def theMethod : MethodId := ⟨1, 1⟩
def args0 : Array Value := #[.int 5, .int 3, .int 3, .int 3, .int 3]
def aboutOver (below : List Frame) : State where
  vm := { classes := classes, interned := interned.toArray }
  heap := heap
  slotsUsed := slotsUsed
  threads := #[{ frames := .invoking theMethod args0 :: below }]
def below0 : List Frame := [.native { method := ⟨0, 0⟩, args := #[] }]
def about1 : State := aboutOver below0
def p0 : Program := .bare "" "" ""
def e0 : Env := launch0.env 0 0 0
theorem w_frames : about1.frames = Frame.invoking theMethod args0 :: below0 := rfl
set_option maxRecDepth 65536 in
theorem w_args : argsFit about1.vm theMethod args0 = true := by decide +kernel
set_option maxRecDepth 65536 in
theorem w_heap : heapFits about1 = true := by decide +kernel
set_option maxRecDepth 65536 in
theorem w_runnable : about1.curStatus? = some .runnable := by decide +kernel
set_option maxRecDepth 65536 in
theorem w_alone : about1.alone = true := by decide +kernel
set_option maxRecDepth 65536 in
theorem w_named : about1.methodNamed? x = some theMethod := by decide +kernel
set_option maxRecDepth 65536 in
theorem w_hears : about1.hears theMethod below0 = true := by decide +kernel
set_option maxRecDepth 65536 in
theorem w_ripe : about1.ripe theMethod args0 below0 = true := by decide +kernel
theorem w_running : about1.status = .running := rfl
set_option maxRecDepth 65536 in
theorem w_room : about1.hasRoom e0.platform room_1 = true :=
  launch0.hasRoom_least _ room_1 (by decide +kernel) (by decide +kernel) (by decide +kernel) (by decide +kernel) (by decide +kernel) (by decide +kernel)
theorem allAtoms_all (ts : List Jvm.Cond) (a : Array Jvm.Value) (st : Jvm.State) : (allAtoms ts).before a st = ts.all (fun c => c.before a st) := by
  induction ts with
  | nil => rfl
  | cons c t ih =>
    show (Jvm.Cond.and c (allAtoms t)).before a st = _
    rw [Jvm.Cond.before_and, ih, List.all_cons]
def words1 : List Jvm.Cond := Jvm.Cond.code x code maxLocals ret :: tables_1
/-- a 'code' word, met by the world's own term for the bytes: nothing is compared byte by byte -/
theorem code_word {y : MethodName} {bytes : ByteArray} {mx : Nat} {rt : Option FieldType} {a : Array Value} {s : State} {m : MethodId} {meth : Method} {c : Code} (h1 : s.methodNamed? y = some m) (h2 : s.vm.method? m = some meth) (h3 : meth.code = some c) (h4 : c.code = bytes)
    (h5 : (c.maxLocals == mx && c.exceptionTable.isEmpty && decide (c.maxStack ≤ mostOperands) && decide (meth.sig.returnType = rt) && !meth.locks && decide (parseMethodDescriptor y.desc = some meth.sig)) = true) : (Jvm.Cond.code y bytes mx rt).before a s = true := by
  simp only [Bool.and_eq_true, beq_iff_eq, Bool.not_eq_true', decide_eq_true_eq] at h5
  obtain ⟨⟨⟨⟨⟨g1, g2⟩, g3⟩, g4⟩, g5⟩, g6⟩ := h5
  simp [Cond.before, Cond.holds, Cond.value, h1, h2, h3, h4, g1, g2, g3, g4, g5, g6]
def isCode : Jvm.Cond → Bool
  | .code _ _ _ _ => true
  | _ => false
theorem all_split {L : List Jvm.Cond} {P : Jvm.Cond → Bool} (h1 : L.all (fun c => isCode c || P c) = true) (h2 : ∀ c ∈ L.filter isCode, P c = true) : L.all P = true := by
  refine List.all_eq_true.mpr fun c hc => ?_
  have h := List.all_eq_true.mp h1 c hc
  rcases Bool.eq_false_or_eq_true (isCode c) with hi | hi
  · exact h2 c (List.mem_filter.mpr ⟨hc, hi⟩)
  · simpa [hi] using h
set_option maxRecDepth 65536 in
theorem w_c0 : (Jvm.Cond.code x code maxLocals ret).before args0 about1 = true := code_word (m := ⟨1, 1⟩) (meth := k1m1) (c := k1c1) (by decide +kernel) rfl rfl rfl (by decide +kernel)
set_option maxRecDepth 65536 in
theorem w_c1 : (Jvm.Cond.code ({ cls := "com/example/iota_ranker/iotaranker/dfr/SecondNormalisations", name := "h3", desc := "(DDDDD)D" } : Jvm.MethodName) prog_41_method_4_code (10 : Nat) (Option.some Jvm.ClassFile.FieldType.double)).before args0 about1 = true := code_word (m := ⟨2, 1⟩) (meth := k2m1) (c := k2c1) (by decide +kernel) rfl rfl rfl (by decide +kernel)
def codes1 : List Jvm.Cond := [Jvm.Cond.code x code maxLocals ret, Jvm.Cond.code ({ cls := "com/example/iota_ranker/iotaranker/dfr/SecondNormalisations", name := "h3", desc := "(DDDDD)D" } : Jvm.MethodName) prog_41_method_4_code (10 : Nat) (Option.some Jvm.ClassFile.FieldType.double)]
set_option maxRecDepth 65536 in
theorem codes_eq : words1.filter isCode = codes1 := rfl
theorem w_codes : ∀ c ∈ words1.filter isCode, c.before args0 about1 = true := by
  rw [codes_eq]
  intro c hc
  simp only [codes1, List.mem_cons, List.not_mem_nil, or_false] at hc
  rcases hc with rfl | rfl
  · exact w_c0
  · exact w_c1
set_option maxRecDepth 65536 in
theorem w_t1 : words1.all (fun c => isCode c || c.before args0 about1) = true := by decide +kernel
theorem w_tables : (allAtoms (Jvm.Cond.code x code maxLocals ret :: tables_1)).before args0 about1 = true := by
  rw [allAtoms_all]
  show words1.all (fun c => c.before args0 about1) = true
  refine all_split ?_ w_codes
  rw [w_t1]
set_option maxRecDepth 65536 in
theorem w_case : (Jvm.Cond.and given_1 narrow_1).before args0 about1 = true := by decide +kernel
theorem w_applies : (headSpec (Jvm.Cond.code x code maxLocals ret :: tables_1) room_1).applies x e0.platform about1 = true :=
  (Spec.applies_iff w_frames).mpr ⟨w_running, w_runnable, w_alone, w_named, w_hears, w_ripe, w_room, w_tables⟩
theorem atStart : AtStart classFile x code maxLocals ret World_1 tables_1 room_1 Calls_1 rest_1 Pre_1 launch0 p0 e0 about1 theMethod args0 below0 :=
  ⟨lists_1, trivial, launch0.admits_env _ _ _, launch0.least_env, fairChoices_fair.cas, fairChoices_fair.clock, w_frames, w_args, w_heap, w_applies, trivial, trivial, w_case⟩
end start1
theorem witness_1 : WitnessClaimed_1 := ⟨start1.p0, start1.e0, start1.about1, start1.theMethod, start1.args0, start1.below0, start1.atStart⟩
end Jvm.Pilot.@@N@@
