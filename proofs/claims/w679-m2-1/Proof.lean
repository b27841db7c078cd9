import JvmDerived
import JvmDerived.Pilot.@@N@@Statement
import JvmDerived.Pilot.@@N@@Code
set_option linter.unusedVariables false
set_option linter.unusedSimpArgs false
namespace Jvm.RoadKit
open Sem ClassFile Op Lib Jvm.Stand Jvm.Free Jvm.LawKit
section OwnKit
variable {p : Program} {l : Launch} {e : Env} {R : Room} {s : State} {m : MethodId} {args : Array Value} {below : List Frame} {meth : Method} {c : Code} {T : State} {locs : List Loc} {cells slots : Nat} {Q : Option Value → Heap → List Loc → Prop} {rc rs : Nat}
theorem retI (X : Stand p l e R s m args below meth c T locs cells slots) (hx : p.tables.exec = Jvm.exec) {pc : Nat} {Ls : Array Slot} {z : Int32} {rest : List Value} (hret : meth.sig.returnType = some .int) (hd : decode c.code pc = .ok (.ireturn, 1)) {fs : List Frame}
    (hl : ∀ (f : JFrame) (acts : List Action), f.method = m → f.locked = none → f.entered = [] → (doReturn e (T.setTop f) acts (some (.int z))).1 = T.setFrames fs) : Steps p.tables e below (T.setTop (mkF m pc Ls (.int z :: rest))) (T.setFrames fs) := by
  have hm' : T.vm.method? m = some meth := X.method'
  have hn : narrow .int (.int z) = .int z := rfl
  show Steps p.tables e below (T.setTop { method := m, pc := pc, locals := Ls, stack := _ :: rest, locked := none }) _
  jvm_step X.here [X.here.top, hx, hd, hm', hret, hn]
  first | (intro acts; rw [hl _ acts rfl rfl rfl]) | rw [hl _ _ rfl rfl rfl]
  exact Steps.refl _
theorem own_retA (X : Stand p l e R s m args below meth c T locs cells slots) (hx : p.tables.exec = Jvm.exec) {pc : Nat} {Ls : Array Slot} {w : Value} {ty : FieldType} {rest : List Value} (hw : w.isRef = true) (hty : ty.isReference = true) (hret : meth.sig.returnType = some ty) (hd : decode c.code pc = .ok (.areturn, 1)) {fs : List Frame}
    (hl : ∀ (f : JFrame) (acts : List Action), f.method = m → f.locked = none → f.entered = [] → (doReturn e (T.setTop f) acts (some w)).1 = T.setFrames fs) : Steps p.tables e below (T.setTop (mkF m pc Ls (w :: rest))) (T.setFrames fs) := by
  have hm' : T.vm.method? m = some meth := X.method'
  show Steps p.tables e below (T.setTop { method := m, pc := pc, locals := Ls, stack := _ :: rest, locked := none }) _
  jvm_step X.here [X.here.top, hx, hd, hm', hret, hw, hty]
  first | (intro acts; rw [hl _ acts rfl rfl rfl]) | rw [hl _ _ rfl rfl rfl]
  exact Steps.refl _
theorem own_retL (X : Stand p l e R s m args below meth c T locs cells slots) (hx : p.tables.exec = Jvm.exec) {pc : Nat} {Ls : Array Slot} {z : Int64} {rest : List Value} (hret : meth.sig.returnType = some .long) (hd : decode c.code pc = .ok (.lreturn, 1)) {fs : List Frame}
    (hl : ∀ (f : JFrame) (acts : List Action), f.method = m → f.locked = none → f.entered = [] → (doReturn e (T.setTop f) acts (some (.long z))).1 = T.setFrames fs) : Steps p.tables e below (T.setTop (mkF m pc Ls (.long z :: rest))) (T.setFrames fs) := by
  have hm' : T.vm.method? m = some meth := X.method'
  show Steps p.tables e below (T.setTop { method := m, pc := pc, locals := Ls, stack := _ :: rest, locked := none }) _
  jvm_step X.here [X.here.top, hx, hd, hm', hret]
  first | (intro acts; rw [hl _ acts rfl rfl rfl]) | rw [hl _ _ rfl rfl rfl]
  exact Steps.refl _
theorem own_retDbl (X : Stand p l e R s m args below meth c T locs cells slots) (hx : p.tables.exec = Jvm.exec) {pc : Nat} {Ls : Array Slot} {z : UInt64} {rest : List Value} (hret : meth.sig.returnType = some .double) (hd : decode c.code pc = .ok (.dreturn, 1)) {fs : List Frame}
    (hl : ∀ (f : JFrame) (acts : List Action), f.method = m → f.locked = none → f.entered = [] → (doReturn e (T.setTop f) acts (some (.double z))).1 = T.setFrames fs) : Steps p.tables e below (T.setTop (mkF m pc Ls (.double z :: rest))) (T.setFrames fs) := by
  have hm' : T.vm.method? m = some meth := X.method'
  show Steps p.tables e below (T.setTop { method := m, pc := pc, locals := Ls, stack := _ :: rest, locked := none }) _
  jvm_step X.here [X.here.top, hx, hd, hm', hret]
  first | (intro acts; rw [hl _ acts rfl rfl rfl]) | rw [hl _ _ rfl rfl rfl]
  exact Steps.refl _
/-- what is left to be shown from the state A on: the run comes back, and Q holds of what it leaves -/
def OwnG (p : Program) (e : Env) (below : List Frame) (s : State) (Q : Option Value → Heap → List Loc → Prop) (rc rs : Nat) (A : State) : Prop :=
  ∃ s₂ o, Steps p.tables e below A s₂ ∧ s₂.status = .running ∧ Ended s₂ below o ∧ ∃ v L, o = .returned v ∧ Q v s₂.heap L ∧ FrameEnd s o s₂ L rc rs
theorem own_by {A B : State} (k : ∀ t, Steps p.tables e below B t → Steps p.tables e below A t) (h : OwnG p e below s Q rc rs B) : OwnG p e below s Q rc rs A := by
  obtain ⟨s₂, o, h1, r⟩ := h
  exact ⟨s₂, o, k _ h1, r⟩
theorem own_out (X : Stand p l e R s m args below meth c T locs cells slots) {v : Option Value} (hv : meth.sig.returnType = none → v = none) (hlk : meth.locks = false) {A : State}
    (k : ∀ fs, (∀ (f : JFrame) (acts : List Action), f.method = m → f.locked = none → f.entered = [] → (doReturn e (T.setTop f) acts v).1 = T.setFrames fs) → Steps p.tables e below A (T.setFrames fs)) (hQ : Q v T.heap locs) (hc : cells ≤ rc) (hs : slots ≤ rs) : OwnG p e below s Q rc rs A := by
  obtain ⟨fs, hr, hrun, hended, hW, hsame⟩ := X.leave (v := v) hv hlk
  exact ⟨_, _, k fs hr, hrun, hended, _, _, rfl, hQ, ⟨_, rfl⟩, hW, hsame.mono hc hs⟩
theorem own_outI (X : Stand p l e R s m args below meth c T locs cells slots) (hx : p.tables.exec = Jvm.exec) {pc : Nat} {Ls : Array Slot} {z : Int32} {rest : List Value} (hret : meth.sig.returnType = some .int) (hlk : meth.locks = false) (hd : decode c.code pc = .ok (.ireturn, 1)) (hQ : Q (some (.int z)) T.heap locs) (hc : cells ≤ rc) (hs : slots ≤ rs) :
    OwnG p e below s Q rc rs (T.setTop (mkF m pc Ls (.int z :: rest))) :=
  own_out X (v := some (.int z)) (fun h => by rw [hret] at h; cases h) hlk (fun fs hr => retI X hx hret hd hr) hQ hc hs
theorem own_outA (X : Stand p l e R s m args below meth c T locs cells slots) (hx : p.tables.exec = Jvm.exec) {pc : Nat} {Ls : Array Slot} {w : Value} {ty : FieldType} {rest : List Value} (hw : w.isRef = true) (hty : ty.isReference = true) (hret : meth.sig.returnType = some ty) (hlk : meth.locks = false) (hd : decode c.code pc = .ok (.areturn, 1)) (hQ : Q (some w) T.heap locs) (hc : cells ≤ rc) (hs : slots ≤ rs) :
    OwnG p e below s Q rc rs (T.setTop (mkF m pc Ls (w :: rest))) :=
  own_out X (v := some w) (fun h => by rw [hret] at h; cases h) hlk (fun fs hr => own_retA X hx hw hty hret hd hr) hQ hc hs
theorem own_outL (X : Stand p l e R s m args below meth c T locs cells slots) (hx : p.tables.exec = Jvm.exec) {pc : Nat} {Ls : Array Slot} {z : Int64} {rest : List Value} (hret : meth.sig.returnType = some .long) (hlk : meth.locks = false) (hd : decode c.code pc = .ok (.lreturn, 1)) (hQ : Q (some (.long z)) T.heap locs) (hc : cells ≤ rc) (hs : slots ≤ rs) :
    OwnG p e below s Q rc rs (T.setTop (mkF m pc Ls (.long z :: rest))) :=
  own_out X (v := some (.long z)) (fun h => by rw [hret] at h; cases h) hlk (fun fs hr => own_retL X hx hret hd hr) hQ hc hs
theorem own_outD (X : Stand p l e R s m args below meth c T locs cells slots) (hx : p.tables.exec = Jvm.exec) {pc : Nat} {Ls : Array Slot} {z : UInt64} {rest : List Value} (hret : meth.sig.returnType = some .double) (hlk : meth.locks = false) (hd : decode c.code pc = .ok (.dreturn, 1)) (hQ : Q (some (.double z)) T.heap locs) (hc : cells ≤ rc) (hs : slots ≤ rs) :
    OwnG p e below s Q rc rs (T.setTop (mkF m pc Ls (.double z :: rest))) :=
  own_out X (v := some (.double z)) (fun h => by rw [hret] at h; cases h) hlk (fun fs hr => own_retDbl X hx hret hd hr) hQ hc hs
theorem own_outV (X : Stand p l e R s m args below meth c T locs cells slots) (hx : p.tables.exec = Jvm.exec) {pc : Nat} {Ls : Array Slot} (hret : meth.sig.returnType = none) (hlk : meth.locks = false) (hd : decode c.code pc = .ok (.return_, 1)) (hQ : Q none T.heap locs) (hc : cells ≤ rc) (hs : slots ≤ rs) :
    OwnG p e below s Q rc rs (T.setTop (mkF m pc Ls [])) :=
  own_out X (v := none) (fun _ => rfl) hlk (fun fs hr => X.returnOut hx hret hd hr) hQ hc hs
theorem own_outN (X : Stand p l e R s m args below meth c T locs cells slots) (hx : p.tables.exec = Jvm.exec) {pc : Nat} {Ls : Array Slot} {z z' : Int32} {t : FieldType} {rest : List Value} (hret : meth.sig.returnType = some t) (ht : t = .boolean ∨ t = .byte ∨ t = .char ∨ t = .short) (hlk : meth.locks = false) (hd : decode c.code pc = .ok (.ireturn, 1)) (hz : nar t z = z') (hQ : Q (some (.int z')) T.heap locs) (hc : cells ≤ rc) (hs : slots ≤ rs) :
    OwnG p e below s Q rc rs (T.setTop (mkF m pc Ls (.int z :: rest))) := by
  subst hz
  exact own_out X (v := some (.int (nar t z))) (fun h => by rw [hret] at h; cases h) hlk (fun fs hr => retN X hx (t := t) hret (by rcases ht with rfl | rfl | rfl | rfl <;> simp) hd hr) hQ hc hs
theorem own_met {y : MethodName} {bytes : ByteArray} {maxL : Nat} {ret : Option FieldType} {rm : Room} {ws : List Cond} {as' : Array Value} {Z : State} {h0 : Heap} (hpl : plainFor y = true)
    (body : ∀ (p : Program) (e : Env) (s : State) (m : MethodId) (below : List Frame) (meth : Method) (c : Code) (s₁ : State), p.tables.exec = Jvm.exec → c.code = bytes → c.maxLocals = maxL → meth.sig.returnType = ret → meth.locks = false → s.vm.findClass y.cls = some m.cls → meth.name = y.name → Z.Warmed39 s.vm →
      Stand p l e rm s m as' below meth c s₁ [] 0 0 → s₁.heap = h0 → OwnG p e below s Q rm.cells rm.slots (s₁.setTop (entryFrame m as' maxL))) :
    MetFree l y (head1 (Cond.code y bytes maxL ret :: ws) rm) (fun a U => a = as' ∧ Z.Warmed39 U.vm ∧ U.heap = h0) (fun _ _ _ _ _ => True) (fun _ U o U' => ∃ v L, o = .returned v ∧ Q v U'.heap L ∧ FrameEnd U o U' L rm.cells rm.slots) := by
  refine MetFree.of_bodySF hpl hisR ?_
  intro p e s m args below meth c s₁ Bd hml0 hP hK
  obtain ⟨rfl, hZ, hh⟩ := hP
  have e0 : s₁.heap = h0 := by rw [← hh, Bd.state]; rfl
  exact body p e s m below meth c s₁ Bd.exec Bd.bytes hml0 Bd.returns Bd.notSynchronized (findClass_of_methodNamed Bd.named) (name_of_methodNamed Bd.named Bd.method).1 hZ (Stand.of_body Bd) e0
theorem own_pop2J {tb : Tables} [Ours tb] {target : State} {g : JFrame} (h : At T m c below) (hx : tb.exec = Jvm.exec) (hg : g.method = m) {x : Int64} {rest : List Value} (hd : decode c.code g.pc = .ok (.pop2, 1)) (hs : g.stack = .long x :: rest)
    (hr : Steps tb e below (T.setTop { g with pc := g.pc + 1, stack := rest }) target) : Steps tb e below (T.setTop g) target := by
  subst hg
  jvm_step h [h.top, hx, hd, hs, Value.category]
  exact hr
theorem own_dup2I {tb : Tables} [Ours tb] {target : State} {g : JFrame} (h : At T m c below) (hx : tb.exec = Jvm.exec) (hg : g.method = m) {x : Int32} {a : Addr} {rest : List Value} (hd : decode c.code g.pc = .ok (.dup2, 1)) (hs : g.stack = .int x :: .ref a :: rest)
    (hr : Steps tb e below (T.setTop { g with pc := g.pc + 1, stack := .int x :: .ref a :: .int x :: .ref a :: rest }) target) : Steps tb e below (T.setTop g) target := by
  subst hg
  jvm_step h [h.top, hx, hd, hs, Value.category]
  exact hr
theorem own_selp {Z s : State} {a0 args : Array Value} {y : MethodName} {n : Nat} (hZ : Z.Warmed39 s.vm) (wi : (Cond.instantiable y.cls n).before a0 Z = true) (wp : (Cond.privateMethod y).before a0 Z = true) (wm : (Cond.instanceMethod y).before a0 Z = true) (hy : y.cls ≠ "java/lang/invoke/MethodHandle" ∧ y.cls ≠ "java/lang/invoke/VarHandle") : (Cond.selects y.cls y y).before args s = true := by
  obtain ⟨c, k, h1, h2, -, h4, -⟩ := Cond.instantiable_spec (mv (args := args) hZ wi)
  exact selects_self_of_private h1 h2 (Bool.or_eq_false_iff.mp h4).1 (Cond.privateMethod_at (mvP hZ wp (args := #[]))) (mvT hZ wm) hy
end OwnKit
end Jvm.RoadKit
namespace Jvm.RoadKit
open Sem ClassFile Op Lib Jvm.Stand Jvm.Free Jvm.LawKit
section OwnArr
variable {p : Program} {l : Launch} {e : Env} {R : Room} {s : State} {m : MethodId} {args : Array Value} {below : List Frame} {meth : Method} {c : Code} {T : State} {locs : List Loc} {cells slots : Nat} {Z : State} {h h' : Heap} {a b : Addr} {ty : FieldType} {n : Nat} {f : Nat → Value}
/-- the array at a: its kind, its length, its components as a function of the place -/
def OwnA (Z : State) (h : Heap) (a : Addr) (ty : FieldType) (n : Nat) (f : Nat → Value) : Prop := ∃ c : Cell, Arr Z h a c ty ∧ c.slots.size = n ∧ n < 2 ^ 31 ∧ ∀ k, k < n → c.slots[k]? = some (f k)
def ownSet (f : Nat → Value) (i : Nat) (v : Value) : Nat → Value := fun k => if k = i then v else f k
theorem OwnA.lt (A : OwnA Z h a ty n f) : a < h.size := by obtain ⟨c, A, -⟩ := A; exact A.lt
theorem OwnA.ext (E : Ext h h') (A : OwnA Z h a ty n f) : OwnA Z h' a ty n f := by obtain ⟨c, A, r⟩ := A; exact ⟨c, A.ext E, r⟩
theorem OwnA.other {sl : Nat} {v : Value} (W : Wr h h' b sl v) (A : OwnA Z h a ty n f) (q : a ≠ b) : OwnA Z h' a ty n f := by obtain ⟨c, A, r⟩ := A; exact ⟨c, A.other W q, r⟩
theorem OwnA.keep {ws : List Addr} (A : OwnA Z h a ty n f) (K : Keep h h' ws) (q : a ∉ ws) : OwnA Z h' a ty n f := by obtain ⟨c, A, r⟩ := A; exact ⟨c, ⟨K.2.1 a c A.1 q, A.2⟩, r⟩
theorem OwnA.set {i : Nat} {v : Value} (W : Wr h h' a i v) (A : OwnA Z h a ty n f) (hi : i < n) : OwnA Z h' a ty n (ownSet f i v) := by
  obtain ⟨c, A, hn, hb, r⟩ := A
  refine ⟨_, A.same W, by simp [Cell.setSlot, hn], hb, fun k hk => ?_⟩
  by_cases e : k = i
  · subst e
    simp [Cell.setSlot, ownSet, hn, hi]
  · simp only [ownSet, if_neg e]
    rw [← r k hk]
    exact Array.getElem?_setIfInBounds_ne (Ne.symm e)
theorem OwnA.new {k : ClassId} {z : Int32} (A : Arr Z h a (newA k ty z) ty) {n : Nat} (q : ¬ z < 0) (hn : z.toNatClampNeg = n) : OwnA Z h a ty n (fun _ => defaultValue ty) := by
  subst hn
  refine ⟨_, A, sz_new _ _ _, (back32 q).2, fun i hi => ?_⟩
  simp [newA, hi]
theorem OwnA.bound (A : OwnA Z h a ty n f) : n < 2 ^ 31 := by obtain ⟨_, _, _, hb, _⟩ := A; exact hb
theorem OwnA.congr {f' : Nat → Value} (A : OwnA Z h a ty n f) (q : ∀ k, k < n → f k = f' k) : OwnA Z h a ty n f' := by
  obtain ⟨c, A, hn, hb, r⟩ := A
  exact ⟨c, A, hn, hb, fun k hk => by rw [r k hk, q k hk]⟩
theorem own_inb {c : Cell} {j : Int32} {i : Nat} (hn : c.slots.size = n) (hj : ¬ j < 0 ∧ j.toNatClampNeg = i ∧ i < n) : ¬ (j < 0 ∨ c.slots.size ≤ j.toNatClampNeg) := by
  rintro (q | q)
  · exact hj.1 q
  · rw [hn, hj.2.1] at q; exact absurd hj.2.2 (Nat.not_lt.mpr q)
theorem own_ldI (X : Stand p l e R s m args below meth c T locs cells slots) (hx : p.tables.exec = Jvm.exec) (hZ : Z.Warmed39 s.vm) (eT : T.heap = h) (A : OwnA Z h a .int n f) {j : Int32} {i : Nat} (hj : ¬ j < 0 ∧ j.toNatClampNeg = i ∧ i < n) {v : Value} (hv : f i = v) {g : JFrame} (hg : g.method = m) {rest : List Value} (hs : g.stack = .int j :: .ref a :: rest) (hd : decode c.code g.pc = .ok (.iaload, 1)) (target : State)
    (k : Steps p.tables e below (T.setTop { g with pc := g.pc + 1, stack := v :: rest }) target) : Steps p.tables e below (T.setTop g) target := by
  obtain ⟨cl, A, hn, hb, r⟩ := A
  exact X.iaload hx (j := j) (v := v) (by rw [eT]; exact A.1) (State.isArrayOf_alike hZ.alike A.2.1) A.2.2 (own_inb hn hj) (by rw [hj.2.1, r i hj.2.2, hv]) hg hs hd target k
theorem own_ldB (X : Stand p l e R s m args below meth c T locs cells slots) (hx : p.tables.exec = Jvm.exec) (hZ : Z.Warmed39 s.vm) (eT : T.heap = h) (A : OwnA Z h a .byte n f) {j : Int32} {i : Nat} (hj : ¬ j < 0 ∧ j.toNatClampNeg = i ∧ i < n) {v : Value} (hv : f i = v) {g : JFrame} (hg : g.method = m) {rest : List Value} (hs : g.stack = .int j :: .ref a :: rest) (hd : decode c.code g.pc = .ok (.baload, 1)) (target : State)
    (k : Steps p.tables e below (T.setTop { g with pc := g.pc + 1, stack := v :: rest }) target) : Steps p.tables e below (T.setTop g) target := by
  obtain ⟨cl, A, hn, hb, r⟩ := A
  exact X.baloadBytes hx (j := j) (v := v) (by rw [eT]; exact A.1) (State.isArrayOf_alike hZ.alike A.2.1) A.2.2 (own_inb hn hj) (by rw [hj.2.1, r i hj.2.2, hv]) hg hs hd target k
theorem own_ldJ (X : Stand p l e R s m args below meth c T locs cells slots) (hx : p.tables.exec = Jvm.exec) (hZ : Z.Warmed39 s.vm) (eT : T.heap = h) (A : OwnA Z h a .long n f) {j : Int32} {i : Nat} (hj : ¬ j < 0 ∧ j.toNatClampNeg = i ∧ i < n) {v : Value} (hv : f i = v) {g : JFrame} (hg : g.method = m) {rest : List Value} (hs : g.stack = .int j :: .ref a :: rest) (hd : decode c.code g.pc = .ok (.laload, 1)) (target : State)
    (k : Steps p.tables e below (T.setTop { g with pc := g.pc + 1, stack := v :: rest }) target) : Steps p.tables e below (T.setTop g) target := by
  obtain ⟨cl, A, hn, hb, r⟩ := A
  exact X.laload hx (j := j) (v := v) (by rw [eT]; exact A.1) (State.isArrayOf_alike hZ.alike A.2.1) A.2.2 (own_inb hn hj) (by rw [hj.2.1, r i hj.2.2, hv]) hg hs hd target k
theorem own_ldR (X : Stand p l e R s m args below meth c T locs cells slots) (hx : p.tables.exec = Jvm.exec) (hZ : Z.Warmed39 s.vm) (eT : T.heap = h) (A : OwnA Z h a ty n f) {j : Int32} {i : Nat} (hj : ¬ j < 0 ∧ j.toNatClampNeg = i ∧ i < n) {v : Value} (hv : f i = v) (hty : ty.isReference = true) {g : JFrame} (hg : g.method = m) {rest : List Value} (hs : g.stack = .int j :: .ref a :: rest) (hd : decode c.code g.pc = .ok (.aaload, 1)) (target : State)
    (k : Steps p.tables e below (T.setTop { g with pc := g.pc + 1, stack := v :: rest }) target) : Steps p.tables e below (T.setTop g) target := by
  obtain ⟨cl, A, hn, hb, r⟩ := A
  exact X.aaload hx (j := j) (v := v) (by rw [eT]; exact A.1) (State.isArrayOf_alike hZ.alike A.2.1) hty A.2.2 (own_inb hn hj) (by rw [hj.2.1, r i hj.2.2, hv]) hg hs hd target k
theorem own_len (X : Stand p l e R s m args below meth c T locs cells slots) (hx : p.tables.exec = Jvm.exec) (hZ : Z.Warmed39 s.vm) (eT : T.heap = h) (A : OwnA Z h a ty n f) {z : Int32} (hz : n.toInt32 = z) {g : JFrame} (hg : g.method = m) {rest : List Value} (hs : g.stack = .ref a :: rest) (hd : decode c.code g.pc = .ok (.arraylength, 1)) (target : State)
    (k : Steps p.tables e below (T.setTop { g with pc := g.pc + 1, stack := .int z :: rest }) target) : Steps p.tables e below (T.setTop g) target := by
  obtain ⟨cl, A, hn, hb, r⟩ := A
  refine X.arraylength hx (by rw [eT]; exact A.1) (State.isArrayOf_alike hZ.alike A.2.1) hg hs hd target ?_
  rw [hn, hz]; exact k
theorem own_stI (X : Stand p l e R s m args below meth c T locs cells slots) (hx : p.tables.exec = Jvm.exec) (hZ : Z.Warmed39 s.vm) (eT : T.heap = h) (A : OwnA Z h a .int n f) {j : Int32} {i : Nat} (hj : ¬ j < 0 ∧ j.toNatClampNeg = i ∧ i < n) {x : Int32} {g : JFrame} (hg : g.method = m) {rest : List Value} (hs : g.stack = .int x :: .int j :: .ref a :: rest) (hd : decode c.code g.pc = .ok (.iastore, 1)) :
    ∃ T' h', Stand p l e R s m args below meth c T' (locs ++ [⟨a, i⟩]) cells slots ∧ T'.heap = h' ∧ Wr h h' a i (.int x) ∧ OwnA Z h' a .int n (ownSet f i (.int x)) ∧ ∀ target, Steps p.tables e below (T'.setTop { g with pc := g.pc + 1, stack := rest }) target → Steps p.tables e below (T.setTop g) target := by
  obtain ⟨cl, A', hn, hb, r⟩ := A
  obtain ⟨T', h', X', e', W, st⟩ := stI X hx hZ eT A' (j := j) (x := x) (own_inb hn hj) hg hs hd
  rw [hj.2.1] at X' W
  exact ⟨T', h', X', e', W, OwnA.set W ⟨cl, A', hn, hb, r⟩ hj.2.2, st⟩
theorem own_stJ (X : Stand p l e R s m args below meth c T locs cells slots) (hx : p.tables.exec = Jvm.exec) (hZ : Z.Warmed39 s.vm) (eT : T.heap = h) (A : OwnA Z h a .long n f) {j : Int32} {i : Nat} (hj : ¬ j < 0 ∧ j.toNatClampNeg = i ∧ i < n) {x : Int64} {g : JFrame} (hg : g.method = m) {rest : List Value} (hs : g.stack = .long x :: .int j :: .ref a :: rest) (hd : decode c.code g.pc = .ok (.lastore, 1)) :
    ∃ T' h', Stand p l e R s m args below meth c T' (locs ++ [⟨a, i⟩]) cells slots ∧ T'.heap = h' ∧ Wr h h' a i (.long x) ∧ OwnA Z h' a .long n (ownSet f i (.long x)) ∧ ∀ target, Steps p.tables e below (T'.setTop { g with pc := g.pc + 1, stack := rest }) target → Steps p.tables e below (T.setTop g) target := by
  obtain ⟨cl, A', hn, hb, r⟩ := A
  obtain ⟨T', h', X', e', W, st⟩ := stJ X hx hZ eT A' (j := j) (x := x) (own_inb hn hj) hg hs hd
  rw [hj.2.1] at X' W
  exact ⟨T', h', X', e', W, OwnA.set W ⟨cl, A', hn, hb, r⟩ hj.2.2, st⟩
theorem own_stB (X : Stand p l e R s m args below meth c T locs cells slots) (hx : p.tables.exec = Jvm.exec) (hZ : Z.Warmed39 s.vm) (eT : T.heap = h) (A : OwnA Z h a .byte n f) {j : Int32} {i : Nat} (hj : ¬ j < 0 ∧ j.toNatClampNeg = i ∧ i < n) {x : Int32} {g : JFrame} (hg : g.method = m) {rest : List Value} (hs : g.stack = .int x :: .int j :: .ref a :: rest) (hd : decode c.code g.pc = .ok (.bastore, 1)) :
    ∃ T' h', Stand p l e R s m args below meth c T' (locs ++ [⟨a, i⟩]) cells slots ∧ T'.heap = h' ∧ Wr h h' a i (.int (nar .byte x)) ∧ OwnA Z h' a .byte n (ownSet f i (.int (nar .byte x))) ∧ ∀ target, Steps p.tables e below (T'.setTop { g with pc := g.pc + 1, stack := rest }) target → Steps p.tables e below (T.setTop g) target := by
  obtain ⟨cl, A', hn, hb, r⟩ := A
  obtain ⟨T', h', X', e', W, st⟩ := stB X hx hZ eT A' (j := j) (x := x) (own_inb hn hj) hg hs hd
  rw [hj.2.1] at X' W
  exact ⟨T', h', X', e', W, OwnA.set W ⟨cl, A', hn, hb, r⟩ hj.2.2, st⟩
theorem own_ldD (X : Stand p l e R s m args below meth c T locs cells slots) (hx : p.tables.exec = Jvm.exec) (hZ : Z.Warmed39 s.vm) (eT : T.heap = h) (A : OwnA Z h a .double n f) {j : Int32} {i : Nat} (hj : ¬ j < 0 ∧ j.toNatClampNeg = i ∧ i < n) {v : Value} (hv : f i = v) {g : JFrame} (hg : g.method = m) {rest : List Value} (hs : g.stack = .int j :: .ref a :: rest) (hd : decode c.code g.pc = .ok (.daload, 1)) (target : State)
    (k : Steps p.tables e below (T.setTop { g with pc := g.pc + 1, stack := v :: rest }) target) : Steps p.tables e below (T.setTop g) target := by
  obtain ⟨cl, A, hn, hb, r⟩ := A
  exact X.daload hx (j := j) (v := v) (by rw [eT]; exact A.1) (State.isArrayOf_alike hZ.alike A.2.1) A.2.2 (own_inb hn hj) (by rw [hj.2.1, r i hj.2.2, hv]) hg hs hd target k
theorem own_stD (X : Stand p l e R s m args below meth c T locs cells slots) (hx : p.tables.exec = Jvm.exec) (hZ : Z.Warmed39 s.vm) (eT : T.heap = h) (A : OwnA Z h a .double n f) {j : Int32} {i : Nat} (hj : ¬ j < 0 ∧ j.toNatClampNeg = i ∧ i < n) {x : UInt64} {g : JFrame} (hg : g.method = m) {rest : List Value} (hs : g.stack = .double x :: .int j :: .ref a :: rest) (hd : decode c.code g.pc = .ok (.dastore, 1)) :
    ∃ T' h', Stand p l e R s m args below meth c T' (locs ++ [⟨a, i⟩]) cells slots ∧ T'.heap = h' ∧ Wr h h' a i (.double x) ∧ OwnA Z h' a .double n (ownSet f i (.double x)) ∧ ∀ target, Steps p.tables e below (T'.setTop { g with pc := g.pc + 1, stack := rest }) target → Steps p.tables e below (T.setTop g) target := by
  obtain ⟨cl, A', hn, hb, r⟩ := A
  obtain ⟨T', h', X', e', W, st⟩ := stD X hx hZ eT A' (j := j) (x := x) (own_inb hn hj) hg hs hd
  rw [hj.2.1] at X' W
  exact ⟨T', h', X', e', W, OwnA.set W ⟨cl, A', hn, hb, r⟩ hj.2.2, st⟩
end OwnArr
end Jvm.RoadKit
namespace Jvm.RoadKit
open Sem ClassFile Op Lib Jvm.Stand Jvm.Free Jvm.LawKit Jvm.Free.Multi
section OwnCube
theorem own_upTo {E : CtlPost} {e : Env} (f : Nat → PUnit → Sem (ForInStep PUnit)) (σ : Nat → State) (N : Nat)
    (turn : ∀ i, i < N → ∀ (d : Bool) (acts : List Action) (P : ForInStep PUnit → Pre), (∀ d' acts', P (.yield PUnit.unit) d' acts' (σ (i + 1))) → wp (f i PUnit.unit) P E e d acts (σ i)) :
    ∀ k i, i + k = N → ∀ (d : Bool) (acts : List Action) (Q : PUnit → Pre), (∀ d' acts', Q PUnit.unit d' acts' (σ N)) → wp (forIn (List.range' i k) PUnit.unit f) Q E e d acts (σ i)
  | 0, i, h, d, acts, Q, hq => by
    cases (show i = N from h)
    rw [List.range'_zero, List.forIn_nil, wp_pure']
    exact hq d acts
  | k + 1, i, h, d, acts, Q, hq => by
    rw [List.range'_succ, List.forIn_cons, wp_bind']
    exact turn i (by omega) d acts _ fun d' acts' => own_upTo f σ N turn k (i + 1) (by omega) d' acts' Q hq
theorem own_rows {E : CtlPost} {e : Env} {d : Bool} {acts : List Action} {s : State} {c comp : ClassId} {k : Class} {t0 : FieldType} {n m : Int32} {more : List Int32} {N : Nat}
    (hk : s.vm.classes[c]? = some k) (hkind : k.kind = .array comp t0) (href : t0.isReference = true) (hn : ¬ n < 0) (ok : ∀ z ∈ m :: more, ¬ z < 0) (hN : n.toNatClampNeg = N)
    (fit : N ≤ e.platform.arrayLengthLimit ∧ N * componentBytes t0 ≤ e.platform.maxHeapBytes) (room : s.heap.size < e.platform.maxCells ∧ s.slotsUsed + N ≤ e.platform.maxSlots)
    (σ τ : Nat → State) (ad : Nat → Addr) (o : Nat → Cell) (h0 : s.pushCell { cls := c, slots := Array.replicate N .null } = σ 0)
    (inner : ∀ i, i < N → ∀ (d : Bool) (acts : List Action) (P : Addr → Pre), (∀ d' acts', P (ad i) d' acts' (τ i)) → wp (multianewarray.make comp (m :: more)) P E e d acts (σ i))
    (put : ∀ i, i < N → (τ i).heap[s.heap.size]? = some (o i) ∧ (o i).vm ≠ .unknown ∧ i < (o i).slots.size ∧ (τ i).fitsSlot (o i).cls (o i).vm i (.ref (ad i)) = true ∧ (τ i).setCell s.heap.size ((o i).setSlot i (.ref (ad i))) = σ (i + 1))
    {Q : Addr → Pre} (hq : ∀ d' acts', Q s.heap.size d' acts' (σ N)) : wp (multianewarray.make c (n :: m :: more)) Q E e d acts s := by
  subst hN
  have good : (m :: more).find? (· < 0) = none := List.find?_eq_none.mpr fun z hz => by simpa using ok z hz
  rw [multianewarray.make, if_neg hn]
  refine (wp_bind' ..).mpr ((W.theClass ..).mpr ⟨k, hk, ?_⟩)
  rw [hkind]
  refine (wp_bind' ..).mpr (wp_newArray hk hkind (Nat.not_lt.mpr fit.1) (Nat.not_lt.mpr fit.2) (refFits href .null (Or.inl rfl)) rfl room.1 room.2 ?_)
  rw [h0]
  have count := own_upTo (E := E) (e := e) (fun i _ => do writeLoc s.heap.size i (.ref (← multianewarray.make comp (m :: more))); Pure.pure (ForInStep.yield PUnit.unit)) σ n.toNatClampNeg (fun i hi d₁ acts₁ P hP => ?_) n.toNatClampNeg 0 (Nat.zero_add _)
  · have walk : wp ((forIn [:n.toNatClampNeg] PUnit.unit fun i _ => do writeLoc s.heap.size i (.ref (← multianewarray.make comp (m :: more))); Pure.pure (ForInStep.yield PUnit.unit)) >>= fun _ => Pure.pure s.heap.size) Q E e d acts (σ 0) := by
      rw [Std.Legacy.Range.forIn_eq_forIn_range', show (Std.Legacy.Range.size [:n.toNatClampNeg]) = n.toNatClampNeg by simp [Std.Legacy.Range.size]]
      exact (wp_bind' ..).mpr (count d acts _ fun d' acts' => (wp_pure' ..).mpr (hq d' acts'))
    split
    · rw [good]; exact walk
    · exact walk
  · obtain ⟨a1, a2, a3, a4, a5⟩ := put i hi
    refine (wp_bind' ..).mpr (inner i hi d₁ acts₁ _ fun d₂ acts₂ => (wp_bind' ..).mpr ((W.writeLoc ..).mpr ⟨o i, a1, a2, a3, a4, (wp_pure' ..).mpr ?_⟩))
    rw [a5]; exact hP _ _
def ownO3 (c : ClassId) (N h0 i : Nat) : Cell := { cls := c, slots := (Array.range N).map fun j => if j < i then .ref (h0 + 1 + 2 * j) else .null }
theorem ownO3_size (c : ClassId) (N h0 i : Nat) : (ownO3 c N h0 i).slots.size = N := by simp [ownO3]
theorem ownO3_slot (c : ClassId) (N h0 i j : Nat) (h : j < N) : (ownO3 c N h0 i).slots[j]? = some (if j < i then .ref (h0 + 1 + 2 * j) else .null) := by simp [ownO3, h]
theorem ownO3_zero (c : ClassId) (N h0 : Nat) : ({ cls := c, slots := Array.replicate N .null } : Cell) = ownO3 c N h0 0 := by
  have : Array.replicate N Value.null = (Array.range N).map fun j => if j < 0 then Value.ref (h0 + 1 + 2 * j) else Value.null := by
    apply Array.ext_getElem?; intro j; by_cases h : j < N <;> simp [h]
  rw [ownO3, ← this]
theorem ownO3_set (c : ClassId) (N h0 i : Nat) : (ownO3 c N h0 i).setSlot i (.ref (h0 + 1 + 2 * i)) = ownO3 c N h0 (i + 1) := by
  have : ((Array.range N).map fun j => if j < i then Value.ref (h0 + 1 + 2 * j) else Value.null).setIfInBounds i (.ref (h0 + 1 + 2 * i)) = (Array.range N).map fun j => if j < i + 1 then Value.ref (h0 + 1 + 2 * j) else Value.null := by
    apply Array.ext_getElem?; intro j
    rw [Array.getElem?_setIfInBounds]
    by_cases e : i = j
    · subst e; by_cases h : i < N <;> simp [h]
    · by_cases h : j < N
      · by_cases q : j < i
        · simp [e, h, q, Nat.lt_succ_of_lt q]
        · simp [e, h, q, show ¬ j < i + 1 by omega]
      · simp [e, h]
  rw [Cell.setSlot, ownO3, ownO3, ← this]
def ownF3 (s : State) (c comp comp2 : ClassId) (N M : Nat) (dv : Value) : Nat → State
  | 0 => s.pushCell (ownO3 c N s.heap.size 0)
  | i + 1 => (fill (ownF3 s c comp comp2 N M dv i) comp comp2 1 M dv 1).setCell s.heap.size (ownO3 c N s.heap.size (i + 1))
theorem ownF3_facts (s : State) (c comp comp2 : ClassId) (N M : Nat) (dv : Value) : ∀ i, (ownF3 s c comp comp2 N M dv i).heap.size = s.heap.size + 1 + 2 * i ∧ (ownF3 s c comp comp2 N M dv i).heap[s.heap.size]? = some (ownO3 c N s.heap.size i) ∧
    (ownF3 s c comp comp2 N M dv i).vm = s.vm ∧ (ownF3 s c comp comp2 N M dv i).slotsUsed = s.slotsUsed + N + i * (1 + M)
  | 0 => ⟨by simp [ownF3], by simp [ownF3], rfl, by simp [ownF3, ownO3]⟩
  | i + 1 => by
    obtain ⟨a, b, d, u⟩ := ownF3_facts s c comp comp2 N M dv i
    obtain ⟨a', b', d', u'⟩ := fill_facts (ownF3 s c comp comp2 N M dv i) comp comp2 1 M dv 1
    have hlt : s.heap.size < (ownF3 s c comp comp2 N M dv i).heap.size := by omega
    have hb' : (fill (ownF3 s c comp comp2 N M dv i) comp comp2 1 M dv 1).heap[s.heap.size]? = some (ownO3 c N s.heap.size i) := by rw [fill_old _ _ _ _ _ _ hlt]; exact b
    refine ⟨?_, State.heap_setCell_self hb', ?_, ?_⟩
    · show ((fill (ownF3 s c comp comp2 N M dv i) comp comp2 1 M dv 1).setCell _ _).heap.size = _
      simp only [State.setCell]
      rw [Array.size_setIfInBounds, a', a]; omega
    · show (fill (ownF3 s c comp comp2 N M dv i) comp comp2 1 M dv 1).vm = _
      rw [d', d]
    · show (fill (ownF3 s c comp comp2 N M dv i) comp comp2 1 M dv 1).slotsUsed = _
      have : (i + 1) * (1 + M) = i * (1 + M) + (1 + M) := Nat.succ_mul i (1 + M)
      rw [u', u]; omega
theorem ownF3_setTop (s : State) (f : JFrame) (c comp comp2 : ClassId) (N M : Nat) (dv : Value) : ∀ i, ownF3 (s.setTop f) c comp comp2 N M dv i = (ownF3 s c comp comp2 N M dv i).setTop f
  | 0 => rfl
  | i + 1 => by simp only [ownF3, ownF3_setTop s f c comp comp2 N M dv i, fill_setTop, State.heap_setTop, State.setCell_setTop]
theorem ownF3_old (s : State) (c comp comp2 : ClassId) (N M : Nat) (dv : Value) {a : Addr} (ha : a < s.heap.size) : ∀ i, (ownF3 s c comp comp2 N M dv i).heap[a]? = s.heap[a]?
  | 0 => State.heap_pushCell_of_lt _ _ ha
  | i + 1 => by
    have f1 := (ownF3_facts s c comp comp2 N M dv i).1
    have hlt : a < (ownF3 s c comp comp2 N M dv i).heap.size := Nat.lt_of_lt_of_le ha (by rw [f1]; omega)
    show ((fill (ownF3 s c comp comp2 N M dv i) comp comp2 1 M dv 1).setCell s.heap.size _).heap[a]? = _
    rw [State.heap_setCell_other (Nat.ne_of_gt ha), fill_old _ _ _ _ _ _ hlt]
    exact ownF3_old s c comp comp2 N M dv ha i
theorem ownF3_in (s : State) (c comp comp2 : ClassId) (N M : Nat) (dv : Value) : ∀ i j, j < i → (ownF3 s c comp comp2 N M dv i).heap[s.heap.size + 1 + 2 * j]? = some (outerC comp 1 (s.heap.size + 1 + 2 * j) 1) ∧ (ownF3 s c comp comp2 N M dv i).heap[s.heap.size + 2 + 2 * j]? = some (innerC comp2 M dv)
  | 0, _, h => absurd h (Nat.not_lt_zero _)
  | i + 1, j, h => by
    have f1 := (ownF3_facts s c comp comp2 N M dv i).1
    obtain ⟨a', b', d', u'⟩ := fill_facts (ownF3 s c comp comp2 N M dv i) comp comp2 1 M dv 1
    have fi := fill_inner (ownF3 s c comp comp2 N M dv i) comp comp2 1 M dv 1 0 (by omega)
    show ((fill (ownF3 s c comp comp2 N M dv i) comp comp2 1 M dv 1).setCell s.heap.size _).heap[s.heap.size + 1 + 2 * j]? = _ ∧ ((fill (ownF3 s c comp comp2 N M dv i) comp comp2 1 M dv 1).setCell s.heap.size _).heap[s.heap.size + 2 + 2 * j]? = _
    rw [State.heap_setCell_other (show s.heap.size ≠ s.heap.size + 1 + 2 * j by omega), State.heap_setCell_other (show s.heap.size ≠ s.heap.size + 2 + 2 * j by omega)]
    rcases Nat.lt_or_ge j i with hj | hj
    · obtain ⟨q1, q2⟩ := ownF3_in s c comp comp2 N M dv i j hj
      rw [fill_old _ _ _ _ _ _ (show s.heap.size + 1 + 2 * j < _ by rw [f1]; omega), fill_old _ _ _ _ _ _ (show s.heap.size + 2 + 2 * j < _ by rw [f1]; omega)]
      exact ⟨q1, q2⟩
    · have e : j = i := by omega
      subst e
      rw [f1] at b' fi
      refine ⟨b', ?_⟩
      rw [← fi]
      congr 1
      show (s.heap.size + 2 + 2 * j : Nat) = s.heap.size + 1 + 2 * j + 1 + 0
      omega
theorem own_make3 {E : CtlPost} {e : Env} {d : Bool} {acts : List Action} {s : State} {c comp comp2 cc : ClassId} {k kc kc2 : Class} {t0 t1 type : FieldType} {n m : Int32} {N M : Nat} (hN : n.toNatClampNeg = N) (hM : m.toNatClampNeg = M)
    (hk : s.vm.classes[c]? = some k ∧ k.kind = .array comp t0 ∧ t0.isReference = true) (hkc : s.vm.classes[comp]? = some kc ∧ kc.kind = .array comp2 t1 ∧ t1.isReference = true) (hkc2 : s.vm.classes[comp2]? = some kc2 ∧ kc2.kind = .array cc type) (hn : ¬ n < 0) (hm : ¬ m < 0)
    (fit : ∀ K t, K ≤ 100000 → componentBytes t ≤ 8 → K ≤ e.platform.arrayLengthLimit ∧ K * componentBytes t ≤ e.platform.maxHeapBytes) (bN : N ≤ 100000) (bM : M ≤ 100000) (b0 : componentBytes t0 ≤ 8) (b1 : componentBytes t1 ≤ 8) (b2 : componentBytes type ≤ 8)
    (dv : fits type (defaultValue type) = true ∧ (defaultValue type).isDefault = true)
    (hc : s.heap.size + 1 + 2 * N ≤ e.platform.maxCells) (hs : s.slotsUsed + N + N * (1 + M) ≤ e.platform.maxSlots)
    {Q : Addr → Pre} (hq : ∀ d' acts', Q s.heap.size d' acts' (ownF3 s c comp comp2 N M (defaultValue type) N)) :
    wp (multianewarray.make c [n, 1, m]) Q E e d acts s := by
  have one : (1 : Int32).toNatClampNeg = 1 := by decide
  have no := fun (K : Nat) (t : FieldType) (a : K ≤ 100000) (b : componentBytes t ≤ 8) => (⟨Nat.not_lt.mpr (fit K t a b).1, Nat.not_lt.mpr (fit K t a b).2⟩ : (¬ K > e.platform.arrayLengthLimit) ∧ ¬ K * componentBytes t > e.platform.maxHeapBytes)
  refine own_rows hk.1 hk.2.1 hk.2.2 hn (fun z hz => ?_) hN (fit N t0 bN b0) ⟨by omega, by have := Nat.zero_le (N * (1 + M)); omega⟩ (ownF3 s c comp comp2 N M (defaultValue type)) (fun i => fill (ownF3 s c comp comp2 N M (defaultValue type) i) comp comp2 1 M (defaultValue type) 1) (fun i => s.heap.size + 1 + 2 * i) (ownO3 c N s.heap.size)
    (by rw [ownO3_zero c N s.heap.size]; rfl) (fun i hi d₁ acts₁ P hP => ?_) (fun i hi => ?_) hq
  · rcases List.mem_cons.mp hz with q | q
    · rw [q]; decide
    · rw [List.mem_singleton.mp q]; exact hm
  · obtain ⟨f1, -, f3, f4⟩ := ownF3_facts s c comp comp2 N M (defaultValue type) i
    have step : (i + 1) * (1 + M) ≤ N * (1 + M) := Nat.mul_le_mul_right _ hi
    rw [Nat.succ_mul] at step
    refine wp_make2 (n := 1) (m := m) (f3 ▸ hkc.1) hkc.2.1 hkc.2.2 (f3 ▸ hkc2.1) hkc2.2 (by decide) hm (one ▸ (no 1 t1 (by decide) b1).1) (one ▸ (no 1 t1 (by decide) b1).2) (hM ▸ (no M type bM b2).1) (hM ▸ (no M type bM b2).2) dv.1 dv.2 (by rw [f1, one]; omega) (by rw [f4, one, hM]; omega) (fun d₂ acts₂ => ?_)
    rw [one, hM, f1]
    exact hP d₂ acts₂
  · obtain ⟨f1, f2, f3, -⟩ := ownF3_facts s c comp comp2 N M (defaultValue type) i
    obtain ⟨-, -, v, -⟩ := fill_facts (ownF3 s c comp comp2 N M (defaultValue type) i) comp comp2 1 M (defaultValue type) 1
    refine ⟨(fill_old _ _ _ _ _ _ (show s.heap.size < (ownF3 s c comp comp2 N M (defaultValue type) i).heap.size by rw [f1]; omega) 1).trans f2, by simp [ownO3], by rw [ownO3_size]; exact hi, ?_, by rw [ownO3_set]; rfl⟩
    show State.fitsSlot _ c .none i _ = true
    simp only [State.fitsSlot, State.slotType?, v, f3, hk.1]
    simp [hk.2.1, refFits hk.2.2 _ (Or.inr ⟨_, rfl⟩)]
variable {p : Program} {l : Launch} {e : Env} {R : Room} {s : State} {m : MethodId} {args : Array Value} {below : List Frame} {meth : Method} {c : Code} {T : State} {locs : List Loc} {cells slots : Nat} {Z : State} {a0 : Array Value} {h : Heap}
theorem own_filled3 (X : Stand p l e R s m args below meth c T locs cells slots) (cA comp comp2 : ClassId) (N M : Nat) (dv : Value) :
    ∀ i, ∃ L, Stand p l e R s m args below meth c (ownF3 T cA comp comp2 N M dv i) (locs ++ L) (cells + 1 + 2 * i) (slots + N + i * (1 + M)) ∧ ∀ y ∈ L, T.heap.size ≤ y.base
  | 0 => by
    have h := X.pushed (ownO3 cA N T.heap.size 0)
    rw [ownO3_size] at h
    exact ⟨[], by simpa [ownF3] using h, fun y hy => by cases hy⟩
  | i + 1 => by
    obtain ⟨L, Xi, hL⟩ := own_filled3 X cA comp comp2 N M dv i
    obtain ⟨f1, f2, f3, f4⟩ := ownF3_facts T cA comp comp2 N M dv i
    have hlt0 : T.heap.size < (ownF3 T cA comp comp2 N M dv i).heap.size := by rw [f1]; omega
    have hcell : (fill (ownF3 T cA comp comp2 N M dv i) comp comp2 1 M dv 1).heap[T.heap.size]? = some (ownO3 cA N T.heap.size i) := by rw [fill_old _ _ _ _ _ _ hlt0]; exact f2
    have h := (Xi.filled comp comp2 1 M dv 1).stored hcell i (.ref (T.heap.size + 1 + 2 * i))
    rw [ownO3_set] at h
    refine ⟨L ++ ((List.range 1).map (fun j => (⟨(ownF3 T cA comp comp2 N M dv i).heap.size, j⟩ : Loc)) ++ [⟨T.heap.size, i⟩]), ?_, ?_⟩
    · have e3 : slots + N + (i + 1) * (1 + M) = slots + N + i * (1 + M) + 1 + 1 * M := by
        have : (i + 1) * (1 + M) = i * (1 + M) + (1 + M) := Nat.succ_mul i (1 + M)
        omega
      have e4 : cells + 1 + 2 * (i + 1) = cells + 1 + 2 * i + 1 + 1 := by omega
      rw [e3, e4, ← List.append_assoc, ← List.append_assoc]
      exact h
    · intro y hy
      rcases List.mem_append.mp hy with q | q
      · exact hL y q
      · rcases List.mem_append.mp q with q | q
        · obtain ⟨j, -, rfl⟩ := List.mem_map.mp q
          exact Nat.le_of_lt hlt0
        · cases List.mem_singleton.mp q
          exact Nat.le_refl _
theorem own_ints (f : Value → Sem Int32) (hf : ∀ n, f (.int n) = Pure.pure n) {E : CtlPost} : ∀ (counts : List Int32) (d : Bool) (acts : List Action) (t : State) (Q : List Int32 → Pre), Q counts d acts t → wp ((counts.map Value.int).mapM f) Q E e d acts t
  | [], d, acts, t, Q, h => by rw [List.map_nil, List.mapM_nil]; exact (wp_pure' ..).mpr h
  | n :: r, d, acts, t, Q, h => by
    rw [List.map_cons, List.mapM_cons, hf]
    exact (wp_bind' ..).mpr ((wp_pure' ..).mpr ((wp_bind' ..).mpr (own_ints f hf r d acts t _ ((wp_pure' ..).mpr h))))
theorem own_multi (X : Stand p l e R s m args below meth c T locs cells slots) (hx : p.tables.exec = Jvm.exec) {g : JFrame} {index : Nat} {vm₁ : Vm} {cA : ClassId} {counts : List Int32} {rest : List Value} {a : Addr} {U : State} (hgm : g.method = m)
    (entry : (Jvm.resolveClass g.method.cls index).Gives e.toSetting T.vm (.ok cA) vm₁) (same : vm₁.classes.size ≤ T.vm.classes.size) (hd : decode c.code g.pc = .ok (.multianewarray index counts.length, 4)) (hs : g.stack = (counts.map Value.int).reverse ++ rest) (top : U.topJava?.isSome)
    (made : ∀ (E : CtlPost) (d : Bool) (acts : List Action) (Q : Addr → Pre), (∀ d' acts', Q a d' acts' (U.setTop { g with stack := rest })) → wp (multianewarray.make cA counts) Q E e d acts ((T.setVm vm₁).setTop { g with stack := rest }))
    (target : State) (go : Steps p.tables e below (U.setTop { g with pc := g.pc + 4, stack := .ref a :: rest }) target) : Steps p.tables e below (T.setTop g) target := by
  subst hgm
  jvm_step X.here [hx, hd]
  rw [multianewarray.sem]
  refine (wp_bind' ..).mpr ((W.resolveClassAt_links (State.method?_setTop g X.here.top) entry same).mpr ((wp_bind' ..).mpr ?_))
  rw [show counts.length = (counts.map Value.int).length from (List.length_map _).symm]
  have hT : (T.setVm vm₁).topJava?.isSome := X.here.top
  refine (Jvm.Op.popN_top (s := T.setVm vm₁) hT hs).mpr ((wp_bind' ..).mpr (own_ints _ (fun n => rfl) counts _ _ _ _ ((wp_bind' ..).mpr (made _ _ _ _ fun d' acts' => ?_))))
  refine (wp_bind' ..).mpr ((W.mark ..).mpr ((W.pushRef ..).mpr ⟨_, State.topJava?_setTop' _ top, ?_⟩))
  intro acts₁
  rw [State.setTop_setTop]
  simpa [jvm, top] using go
theorem own_cube (X : Stand p l e R s m args below meth c T locs cells slots) (hx : p.tables.exec = Jvm.exec) (hZ : Z.Warmed39 s.vm) {own ad : String} {index : Nat} {ty : FieldType} (hown : s.vm.findClass own = some m.cls) (had : "[" ++ (FieldType.array (.array ty)).toString = ad)
    (w1 : (Cond.classLink own index ad).before a0 Z = true) (w2 : (Cond.arrayOver (.array (.array ty))).before a0 Z = true) (w3 : (Cond.arrayOver (.array ty)).before a0 Z = true) (w4 : (Cond.arrayClass ty).before a0 Z = true) (eT : T.heap = h)
    {g : JFrame} (hg : g.method = m) (hd : decode c.code g.pc = .ok (.multianewarray index 3, 4)) {n k : Int32} {rest : List Value} (hs : g.stack = .int k :: .int 1 :: .int n :: rest)
    (hn : ¬ n < 0) (hk : ¬ k < 0) {N M : Nat} (hN : n.toNatClampNeg = N) (hM : k.toNatClampNeg = M) (hb1 : N ≤ 1000) (hb2 : M ≤ 100000) (hcb : componentBytes ty ≤ 8) (hdf : fits ty (defaultValue ty) = true) (hdd : (defaultValue ty).isDefault = true)
    (hc : cells + (1 + 2 * N) ≤ R.cells) (hl : slots + (N + N * (1 + M)) ≤ R.slots) :
    ∃ (T' : State) (h' : Heap), Stand p l e R s m args below meth c T' locs (cells + (1 + 2 * N)) (slots + (N + N * (1 + M))) ∧ T'.heap = h' ∧ Ext h h' ∧ OwnA Z h' h.size (.array (.array ty)) N (fun j => .ref (h.size + 1 + 2 * j)) ∧
      (∀ j, j < N → OwnA Z h' (h.size + 1 + 2 * j) (.array ty) 1 (fun _ => .ref (h.size + 2 + 2 * j)) ∧ OwnA Z h' (h.size + 2 + 2 * j) ty M (fun _ => defaultValue ty)) ∧
      ∀ target, Steps p.tables e below (T'.setTop { g with pc := g.pc + 4, stack := .ref h.size :: rest }) target → Steps p.tables e below (T.setTop g) target := by
  subst hg; subst had; subst eT
  obtain ⟨comp, cA, kA, hcomp, hkA, hkindA, hnameA⟩ := Cond.arrayOver_specA w2
  obtain ⟨comp2, cB, kB, hcompB, hkB, hkindB, hnameB⟩ := Cond.arrayOver_specA w3
  obtain ⟨comp3, kC, cc, hcomp3, hkC, hkindC⟩ := Cond.arrayClass_spec w4
  have e1 : cB = comp := Option.some.inj (hnameB.symm.trans hcomp)
  subst e1
  have e2 : comp3 = comp2 := Option.some.inj (hcomp3.symm.trans hcompB)
  subst e2
  obtain ⟨c0, found, link⟩ := Cond.classLink_spec hown (mv (args := args) hZ w1) e.platform (by rw [X.admits.platform])
  have same : c0 = cA := Option.some.inj (found.symm.trans ((hZ.alike.findClass _ _).trans hnameA))
  subst same
  obtain ⟨entry, warm, -⟩ := State.classEntry (e := e) X.warmed link
  have kinds : ∀ {i : ClassId} {q : Class} {b : ClassId} {t : FieldType}, Z.vm.classes[i]? = some q → q.kind = .array b t → ∃ q', (T.vm.noted g.method.cls index (.cls c0)).classes[i]? = some q' ∧ q'.kind = .array b t := fun h1 h2 =>
    (hZ.alike.trans warm.alike).2.2 _ _ h1 |>.elim fun q' hq' => ⟨q', hq'.1, by rw [hq'.2]; exact h2⟩
  obtain ⟨qA, a1, a2⟩ := kinds hkA hkindA
  obtain ⟨qB, b1, b2⟩ := kinds hkB hkindB
  obtain ⟨qC, c1, c2⟩ := kinds hkC hkindC
  have W := X.noted warm
  obtain ⟨hr1, hr2⟩ := X.roomAbove hc hl
  obtain ⟨L, XF, hL⟩ := own_filled3 W c0 cB comp3 N M (defaultValue ty) N
  obtain ⟨f1, f2, f3, f4⟩ := ownF3_facts (T.setVm (T.vm.noted g.method.cls index (.cls c0))) c0 cB comp3 N M (defaultValue ty) N
  have old := fun (a : Addr) (ha : a < T.heap.size) => ownF3_old (T.setVm (T.vm.noted g.method.cls index (.cls c0))) c0 cB comp3 N M (defaultValue ty) (a := a) ha N
  have fits : ∀ K t, K ≤ 100000 → componentBytes t ≤ 8 → K ≤ e.platform.arrayLengthLimit ∧ K * componentBytes t ≤ e.platform.maxHeapBytes := fun K t a b => by
    have := Nat.mul_le_mul a b
    rw [Launch.admits_arrayLengthLimit X.admits, Launch.admits_maxHeapBytes X.admits]; omega
  refine ⟨ownF3 (T.setVm (T.vm.noted g.method.cls index (.cls c0))) c0 cB comp3 N M (defaultValue ty) N, _, ((Stand.forget XF fun y hy => Nat.le_trans X.same.2.1 (hL y hy)).more (by omega) (by omega)), rfl, ⟨by rw [f1]; show T.heap.size ≤ T.heap.size + 1 + _; omega, fun a q hq => (old a (Array.getElem?_eq_some_iff.mp hq).1).trans hq⟩, ?_, fun j hj => ?_, fun target hrest => ?_⟩
  · refine ⟨_, ⟨f2, ⟨fun x => by simp [ownO3], kA, hkA, cB, hkindA⟩, by simp [ownO3]⟩, ownO3_size .., by omega, fun j hj => ?_⟩
    rw [ownO3_slot _ _ _ _ j hj, if_pos hj]; rfl
  · obtain ⟨q1, q2⟩ := ownF3_in (T.setVm (T.vm.noted g.method.cls index (.cls c0))) c0 cB comp3 N M (defaultValue ty) N j hj
    obtain ⟨r1, r2, r3⟩ := outerC_facts cB 1 (T.heap.size + 1 + 2 * j) 1
    refine ⟨⟨_, ⟨q1, ⟨fun x => r2 ▸ (by simp), kB, r1 ▸ hkB, comp3, hkindB⟩, r2 ▸ (by simp)⟩, r3, by omega, fun i hi => ?_⟩, ⟨_, ⟨q2, ⟨fun x => by simp [innerC], kC, hkC, cc, hkindC⟩, by simp [innerC]⟩, by simp [innerC], by omega, fun i hi => by simp [innerC, hi]⟩⟩
    cases (show i = 0 by omega)
    have sum : T.heap.size + 1 + 2 * j + 1 + 0 = T.heap.size + 2 + 2 * j := by omega
    exact (outerC_slot cB 1 (T.heap.size + 1 + 2 * j) 1 0 hi).trans (congrArg (fun z => some (Value.ref z)) sum)
  · refine own_multi (counts := [n, 1, k]) X hx rfl entry (Nat.le_of_eq (Vm.size_noted ..)) hd hs XF.here.top (fun E d acts Q hQ => ?_) target hrest
    refine own_make3 hN hM ⟨a1, a2, rfl⟩ ⟨b1, b2, rfl⟩ ⟨c1, c2⟩ hn hk fits (by omega) hb2 (show (4 : Nat) ≤ 8 by decide) (show (4 : Nat) ≤ 8 by decide) hcb ⟨hdf, hdd⟩ (by show T.heap.size + 1 + _ ≤ _; omega) (by show T.slotsUsed + _ + _ ≤ _; omega) (fun d' acts' => ?_)
    rw [ownF3_setTop]
    exact hQ d' acts'
end OwnCube
end Jvm.RoadKit
namespace Jvm.Pilot.@@N@@
open Jvm Jvm.ClassFile Sem Op Lib Jvm.Free Jvm.Stand Jvm.LawKit Jvm.RoadKit Bundle Jvm.Pilot.@@N@@.Jvm.D
/-- the columns: the object at a, its array at co, each column's page -/
def own_G (Z : State) (h : Heap) (a co : Nat) (N : Nat) (F : Nat → Nat → Int64) : Prop := Exa Z h a "com/example/syncline/syncline/tpcc/LongColumns" ∧ Fld Z h a "com/example/syncline/syncline/tpcc/LongColumns" "columns" "[[[J" (.ref co) ∧ a < co ∧ OwnA Z h co (.array (.array .long)) N (fun j => .ref (co + 1 + 2 * j)) ∧
  ∀ j, j < N → OwnA Z h (co + 1 + 2 * j) (.array .long) 1 (fun _ => .ref (co + 2 + 2 * j)) ∧ OwnA Z h (co + 2 + 2 * j) .long 1024 (fun i => .long (F j i))
def own_U (F : Nat → Nat → Int64) (cl sl : Nat) (v : Int64) : Nat → Nat → Int64 := fun j i => if j = cl ∧ i = sl then v else F j i
theorem own_n1 {a co c : Nat} (h : a < co) : a ≠ co + 2 + 2 * c := by omega
theorem own_n2 {co c : Nat} : co ≠ co + 2 + 2 * c := by omega
theorem own_n3 {co j c : Nat} : co + 1 + 2 * j ≠ co + 2 + 2 * c := by omega
theorem own_n4 {co j c : Nat} (h : j ≠ c) : co + 2 + 2 * j ≠ co + 2 + 2 * c := by omega
theorem own_Gset {Z : State} {h h' : Heap} {a co N : Nat} {F : Nat → Nat → Int64} (G : own_G Z h a co N F) {cl sl : Nat} {v : Int64} (hc : cl < N) (hs : sl < 1024) (W : Wr h h' (co + 2 + 2 * cl) sl (.long v)) : own_G Z h' a co N (own_U F cl sl v) := by
  obtain ⟨g1, g2, g3, g4, g5⟩ := G
  refine ⟨Exa.wr W g1, Fld.other W g2 (Or.inl (own_n1 g3)), g3, OwnA.other W g4 own_n2, fun j hj => ?_⟩
  obtain ⟨q1, q2⟩ := g5 j hj
  refine ⟨OwnA.other W q1 own_n3, ?_⟩
  by_cases e : j = cl
  · subst e
    refine OwnA.congr (OwnA.set W q2 hs) (fun i hi => ?_)
    by_cases e2 : i = sl
    · simp [ownSet, own_U, e2]
    · simp [ownSet, own_U, e2]
  · refine OwnA.congr (OwnA.other W q2 (own_n4 e)) (fun i hi => ?_)
    simp [own_U, e]
theorem own_UH (F : Nat → Nat → Int64) (cl sl : Nat) (v : Int64) : own_U F cl sl v cl sl = v := if_pos ⟨rfl, rfl⟩
theorem own_UM {F : Nat → Nat → Int64} {cl sl j i : Nat} {v : Int64} (h : ¬ (j = cl ∧ i = sl)) : own_U F cl sl v j i = F j i := if_neg h
theorem own_ofNat (i : Nat) (h : i < 2 ^ 31) : i.toInt32.toInt = i := len_toInt h
theorem own_z : (0 : Int32).toInt = 0 := by decide
theorem own_ix {i n : Nat} (h : i < n) (hn : n < 2 ^ 31) : ¬ i.toInt32 < 0 ∧ i.toInt32.toNatClampNeg = i ∧ i < n := by
  have e := own_ofNat i (by omega)
  refine ⟨?_, ?_, h⟩
  · rw [Int32.lt_iff_toInt_lt, e, own_z]; omega
  · simp only [Int32.toNatClampNeg, e]; omega
theorem own_page {sl : Nat} (h : sl < 1024) : (sl.toInt32.toUInt32 >>> ((13 : Int32) &&& 31).toUInt32).toInt32 = 0 := by
  apply Int32.toInt_inj.mp
  rw [c_iushr sl.toInt32 13 13 (by decide) (by decide), own_ofNat _ (by omega), own_z]
  have : (sl : Int) % 4294967296 = sl := Int.emod_eq_of_lt (by omega) (by omega)
  rw [this]
  show (sl : Int) / 8192 = 0
  omega
theorem own_lowbits {sl : Nat} (h : sl < 1024) : sl.toInt32 &&& 8191 = sl.toInt32 := by
  apply Int32.toInt_inj.mp
  rw [c_mask sl.toInt32 8191 13 (by decide) (by decide), own_ofNat _ (by omega)]
  show (sl : Int) % 8192 = sl
  omega
theorem own_zix : ¬ (0 : Int32) < 0 ∧ (0 : Int32).toNatClampNeg = 0 ∧ 0 < 1 := by decide
theorem own_msk (x : Int32) (m : Int32) (k : Nat) (hk : k ≤ 31) (hm : m.toBitVec.toNat = 2 ^ k - 1) : ∃ n : Nat, n < 2 ^ k ∧ x &&& m = n.toInt32 := by
  have e := c_mask x m k hk hm
  have b1 := Int.emod_nonneg x.toInt (show ((2 ^ k : Nat) : Int) ≠ 0 from by have := Nat.two_pow_pos k; omega)
  have b2 := Int.emod_lt_of_pos x.toInt (show (0 : Int) < ((2 ^ k : Nat) : Int) from by have := Nat.two_pow_pos k; omega)
  have b3 : 2 ^ k ≤ 2 ^ 31 := Nat.pow_le_pow_right (by decide) hk
  refine ⟨(x.toInt % ((2 ^ k : Nat) : Int)).toNat, by omega, ?_⟩
  apply Int32.toInt_inj.mp
  rw [e, own_ofNat _ (by omega)]
  omega
theorem own_irem (x y : Int32) : x - (x / y) * y = x % y := Jvm.irem_eq_mod x y
theorem own_remN (z y : Nat) (hz : z < 2 ^ 31) (hy : 0 < y) (hy2 : y < 2 ^ 31) : z.toInt32 - (z.toInt32 / y.toInt32) * y.toInt32 = (z % y).toInt32 := by
  rw [own_irem]
  apply Int32.toInt_inj.mp
  have h0 := own_ofNat z hz
  have hz' := (c_irem z.toInt32 y.toInt32 y (own_ofNat y hy2)).1 (by omega)
  have := Nat.mod_lt z hy
  rw [hz', h0, own_ofNat _ (by omega)]
  omega
theorem own_addN (x y : Nat) : x.toInt32 + y.toInt32 = (x + y).toInt32 := (Int32.ofNat_add x y).symm
theorem own_maskN {x k : Nat} (m : Int32) (hx : x < 2 ^ 31) (hk : k ≤ 31) (hm : m.toBitVec.toNat = 2 ^ k - 1) : x.toInt32 &&& m = (x % 2 ^ k).toInt32 := by
  apply Int32.toInt_inj.mp
  have b3 : 2 ^ k ≤ 2 ^ 31 := Nat.pow_le_pow_right (by decide) hk
  have := Nat.mod_lt x (Nat.two_pow_pos k)
  rw [c_mask _ m k hk hm, own_ofNat _ hx, own_ofNat _ (by omega)]
  omega
theorem d4_0 : decode jdk_29_method_65_code 0 = .ok (.iload_n 0, 1) := by decide +kernel
theorem d4_1 : decode jdk_29_method_65_code 1 = .ok (.iload_n 1, 1) := by decide +kernel
theorem d4_2 : decode jdk_29_method_65_code 2 = .ok (.if_icmp .lt 7, 3) := by decide +kernel
theorem d4_5 : decode jdk_29_method_65_code 5 = .ok (.iload_n 0, 1) := by decide +kernel
theorem d4_6 : decode jdk_29_method_65_code 6 = .ok (.goto 4, 3) := by decide +kernel
theorem d4_9 : decode jdk_29_method_65_code 9 = .ok (.iload_n 1, 1) := by decide +kernel
theorem d4_10 : decode jdk_29_method_65_code 10 = .ok (.ireturn, 1) := by decide +kernel
theorem ef_4 (m : MethodId) (x0 : Int32) (x1 : Int32) : entryFrame m #[(.int x0), (.int x1)] 2 = mkF m 0 #[.val (.int x0), .val (.int x1)] [] := by first | (simp [entryFrame, mkF, argsToLocals, Value.category]; done) | rfl
def Q4 (Z : State) (p1 p2 r : Int32) (h0 : Heap) (n0 : Nat) (v : Option Value) (h : Heap) (L : List Loc) : Prop := v = some (.int r) ∧ Fr n0 L ∧ h = h0
set_option maxRecDepth 65536 in
set_option maxHeartbeats 40000000 in
theorem rm4 (l : Launch) (Z : State) (a0 : Array Value) (hw : ∀ d ∈ tables_1, d.before a0 Z = true) (ws : List Jvm.Cond) (p1 p2 r : Int32) (h0 : Heap) (n0 : Nat) (Z0 : n0 ≤ h0.size) (hr : r = (if p1 < p2 then p2 else p1)) :
    MetFree l (⟨"java/lang/Math", "max", "(II)I"⟩ : MethodName) (head1 (Jvm.Cond.code (⟨"java/lang/Math", "max", "(II)I"⟩ : MethodName) jdk_29_method_65_code 2 (some .int) :: ws) ({ frames := 0, cells := 0, slots := 0, locals := 0 } : Room)) (fun aa_ U => aa_ = #[(.int p1), (.int p2)] ∧ Z.Warmed39 U.vm ∧ U.heap = h0) (fun _ _ _ _ _ => True) (fun _ U o U' => ∃ v L, o = .returned v ∧ Q4 Z p1 p2 r h0 n0 v U'.heap L ∧ FrameEnd U o U' L ({ frames := 0, cells := 0, slots := 0, locals := 0 } : Room).cells ({ frames := 0, cells := 0, slots := 0, locals := 0 } : Room).slots) := by
  refine own_met (Q := fun v h L => Q4 Z p1 p2 r h0 n0 v h L) (Jvm.Free.JP.mathPlain rfl (by decide +kernel)) ?_
  intro p e s m below meth c s₁ hx hby hml hret hlk hown hnm hZ X0 e0
  have N0 := Fr.nil n0
  rw [ef_4 m p1 p2]
  show OwnG p e below s _ _ _ (s₁.setTop (mkF m 0 #[.val (.int p1), .val (.int p2)] []))
  refine own_by (fun t kk_ => XS.iloadN X0.here hx rfl (hb hby d4_0) rfl  kk_) ?_
  show OwnG p e below s _ _ _ (s₁.setTop (mkF m 1 #[.val (.int p1), .val (.int p2)] [(.int p1)]))
  refine own_by (fun t kk_ => XS.iloadN X0.here hx rfl (hb hby d4_1) rfl  kk_) ?_
  show OwnG p e below s _ _ _ (s₁.setTop (mkF m 2 #[.val (.int p1), .val (.int p2)] [(.int p2), (.int p1)]))
  by_cases hb2_1 : p1 < p2
  · refine own_by (fun t kk_ => XS.icmpYes X0.here hx rfl (pc0 := 2) (pc' := 9) rfl (hb hby d4_2) rfl (tlt hb2_1).1 (by decide) (by decide) kk_) ?_
    show OwnG p e below s _ _ _ (s₁.setTop (mkF m 9 #[.val (.int p1), .val (.int p2)] []))
    refine own_by (fun t kk_ => XS.iloadN X0.here hx rfl (hb hby d4_9) rfl  kk_) ?_
    show OwnG p e below s _ _ _ (s₁.setTop (mkF m 10 #[.val (.int p1), .val (.int p2)] [(.int p2)]))
    exact own_outI X0 hx hret hlk (hb hby d4_10) (⟨by simp [hr, hb2_1], N0, e0⟩) (by decide) (by decide)
  · refine own_by (fun t kk_ => XS.icmpNo X0.here hx rfl (hb hby d4_2) rfl (flt hb2_1).1 kk_) ?_
    show OwnG p e below s _ _ _ (s₁.setTop (mkF m 5 #[.val (.int p1), .val (.int p2)] []))
    refine own_by (fun t kk_ => XS.iloadN X0.here hx rfl (hb hby d4_5) rfl  kk_) ?_
    show OwnG p e below s _ _ _ (s₁.setTop (mkF m 6 #[.val (.int p1), .val (.int p2)] [(.int p1)]))
    refine own_by (fun t kk_ => XS.goto X0.here hx rfl (pc0 := 6) (pc' := 10) rfl (hb hby d4_6) (by decide) (by decide) kk_) ?_
    show OwnG p e below s _ _ _ (s₁.setTop (mkF m 10 #[.val (.int p1), .val (.int p2)] [(.int p1)]))
    exact own_outI X0 hx hret hlk (hb hby d4_10) (⟨by simp [hr, hb2_1], N0, e0⟩) (by decide) (by decide)
theorem d5_0 : decode jdk_29_method_69_code 0 = .ok (.iload_n 0, 1) := by decide +kernel
theorem d5_1 : decode jdk_29_method_69_code 1 = .ok (.iload_n 1, 1) := by decide +kernel
theorem d5_2 : decode jdk_29_method_69_code 2 = .ok (.if_icmp .gt 7, 3) := by decide +kernel
theorem d5_5 : decode jdk_29_method_69_code 5 = .ok (.iload_n 0, 1) := by decide +kernel
theorem d5_6 : decode jdk_29_method_69_code 6 = .ok (.goto 4, 3) := by decide +kernel
theorem d5_9 : decode jdk_29_method_69_code 9 = .ok (.iload_n 1, 1) := by decide +kernel
theorem d5_10 : decode jdk_29_method_69_code 10 = .ok (.ireturn, 1) := by decide +kernel
theorem ef_5 (m : MethodId) (x0 : Int32) (x1 : Int32) : entryFrame m #[(.int x0), (.int x1)] 2 = mkF m 0 #[.val (.int x0), .val (.int x1)] [] := by first | (simp [entryFrame, mkF, argsToLocals, Value.category]; done) | rfl
def Q5 (Z : State) (p1 p2 r : Int32) (h0 : Heap) (n0 : Nat) (v : Option Value) (h : Heap) (L : List Loc) : Prop := v = some (.int r) ∧ Fr n0 L ∧ h = h0
set_option maxRecDepth 65536 in
set_option maxHeartbeats 40000000 in
theorem rm5 (l : Launch) (Z : State) (a0 : Array Value) (hw : ∀ d ∈ tables_1, d.before a0 Z = true) (ws : List Jvm.Cond) (p1 p2 r : Int32) (h0 : Heap) (n0 : Nat) (Z0 : n0 ≤ h0.size) (hr : r = (if p2 < p1 then p2 else p1)) :
    MetFree l (⟨"java/lang/Math", "min", "(II)I"⟩ : MethodName) (head1 (Jvm.Cond.code (⟨"java/lang/Math", "min", "(II)I"⟩ : MethodName) jdk_29_method_69_code 2 (some .int) :: ws) ({ frames := 0, cells := 0, slots := 0, locals := 0 } : Room)) (fun aa_ U => aa_ = #[(.int p1), (.int p2)] ∧ Z.Warmed39 U.vm ∧ U.heap = h0) (fun _ _ _ _ _ => True) (fun _ U o U' => ∃ v L, o = .returned v ∧ Q5 Z p1 p2 r h0 n0 v U'.heap L ∧ FrameEnd U o U' L ({ frames := 0, cells := 0, slots := 0, locals := 0 } : Room).cells ({ frames := 0, cells := 0, slots := 0, locals := 0 } : Room).slots) := by
  refine own_met (Q := fun v h L => Q5 Z p1 p2 r h0 n0 v h L) (Jvm.Free.JP.mathPlain rfl (by decide +kernel)) ?_
  intro p e s m below meth c s₁ hx hby hml hret hlk hown hnm hZ X0 e0
  have N0 := Fr.nil n0
  rw [ef_5 m p1 p2]
  show OwnG p e below s _ _ _ (s₁.setTop (mkF m 0 #[.val (.int p1), .val (.int p2)] []))
  refine own_by (fun t kk_ => XS.iloadN X0.here hx rfl (hb hby d5_0) rfl  kk_) ?_
  show OwnG p e below s _ _ _ (s₁.setTop (mkF m 1 #[.val (.int p1), .val (.int p2)] [(.int p1)]))
  refine own_by (fun t kk_ => XS.iloadN X0.here hx rfl (hb hby d5_1) rfl  kk_) ?_
  show OwnG p e below s _ _ _ (s₁.setTop (mkF m 2 #[.val (.int p1), .val (.int p2)] [(.int p2), (.int p1)]))
  by_cases hb2_1 : p2 < p1
  · refine own_by (fun t kk_ => XS.icmpYes X0.here hx rfl (pc0 := 2) (pc' := 9) rfl (hb hby d5_2) rfl (tlt hb2_1).2.2.1 (by decide) (by decide) kk_) ?_
    show OwnG p e below s _ _ _ (s₁.setTop (mkF m 9 #[.val (.int p1), .val (.int p2)] []))
    refine own_by (fun t kk_ => XS.iloadN X0.here hx rfl (hb hby d5_9) rfl  kk_) ?_
    show OwnG p e below s _ _ _ (s₁.setTop (mkF m 10 #[.val (.int p1), .val (.int p2)] [(.int p2)]))
    exact own_outI X0 hx hret hlk (hb hby d5_10) (⟨by simp [hr, hb2_1], N0, e0⟩) (by decide) (by decide)
  · refine own_by (fun t kk_ => XS.icmpNo X0.here hx rfl (hb hby d5_2) rfl (flt hb2_1).2.2.1 kk_) ?_
    show OwnG p e below s _ _ _ (s₁.setTop (mkF m 5 #[.val (.int p1), .val (.int p2)] []))
    refine own_by (fun t kk_ => XS.iloadN X0.here hx rfl (hb hby d5_5) rfl  kk_) ?_
    show OwnG p e below s _ _ _ (s₁.setTop (mkF m 6 #[.val (.int p1), .val (.int p2)] [(.int p1)]))
    refine own_by (fun t kk_ => XS.goto X0.here hx rfl (pc0 := 6) (pc' := 10) rfl (hb hby d5_6) (by decide) (by decide) kk_) ?_
    show OwnG p e below s _ _ _ (s₁.setTop (mkF m 10 #[.val (.int p1), .val (.int p2)] [(.int p1)]))
    exact own_outI X0 hx hret hlk (hb hby d5_10) (⟨by simp [hr, hb2_1], N0, e0⟩) (by decide) (by decide)
theorem own_far {a co j : Nat} (h : a < co) : co + 1 + 2 * j ≠ a := by omega
theorem own_far2 {a co j : Nat} (h : a < co) : co + 2 + 2 * j ≠ a := by omega
theorem d3_0 : decode prog_261_method_11_code 0 = .ok (.aload_n 0, 1) := by decide +kernel
theorem d3_1 : decode prog_261_method_11_code 1 = .ok (.iload_n 1, 1) := by decide +kernel
theorem d3_2 : decode prog_261_method_11_code 2 = .ok (.putfield 32, 3) := by decide +kernel
theorem d3_5 : decode prog_261_method_11_code 5 = .ok (.iconst 1, 1) := by decide +kernel
theorem d3_6 : decode prog_261_method_11_code 6 = .ok (.iload_n 1, 1) := by decide +kernel
theorem d3_7 : decode prog_261_method_11_code 7 = .ok (.bipush 13, 2) := by decide +kernel
theorem d3_9 : decode prog_261_method_11_code 9 = .ok (.iushr, 1) := by decide +kernel
theorem d3_10 : decode prog_261_method_11_code 10 = .ok (.invokestatic 69, 3) := by decide +kernel
theorem d3_13 : decode prog_261_method_11_code 13 = .ok (.istore_n 2, 1) := by decide +kernel
theorem d3_14 : decode prog_261_method_11_code 14 = .ok (.iload_n 1, 1) := by decide +kernel
theorem d3_15 : decode prog_261_method_11_code 15 = .ok (.sipush 8192, 3) := by decide +kernel
theorem d3_18 : decode prog_261_method_11_code 18 = .ok (.invokestatic 75, 3) := by decide +kernel
theorem d3_21 : decode prog_261_method_11_code 21 = .ok (.istore_n 3, 1) := by decide +kernel
theorem d3_22 : decode prog_261_method_11_code 22 = .ok (.aload_n 0, 1) := by decide +kernel
theorem d3_23 : decode prog_261_method_11_code 23 = .ok (.iload_n 2, 1) := by decide +kernel
theorem d3_24 : decode prog_261_method_11_code 24 = .ok (.iload_n 3, 1) := by decide +kernel
theorem d3_25 : decode prog_261_method_11_code 25 = .ok (.multianewarray 78 2, 4) := by decide +kernel
theorem d3_29 : decode prog_261_method_11_code 29 = .ok (.putfield 61, 3) := by decide +kernel
theorem d3_32 : decode prog_261_method_11_code 32 = .ok (.aload_n 0, 1) := by decide +kernel
theorem d3_33 : decode prog_261_method_11_code 33 = .ok (.iload_n 2, 1) := by decide +kernel
theorem d3_34 : decode prog_261_method_11_code 34 = .ok (.iload_n 3, 1) := by decide +kernel
theorem d3_35 : decode prog_261_method_11_code 35 = .ok (.multianewarray 79 2, 4) := by decide +kernel
theorem d3_39 : decode prog_261_method_11_code 39 = .ok (.putfield 65, 3) := by decide +kernel
theorem d3_42 : decode prog_261_method_11_code 42 = .ok (.aload_n 0, 1) := by decide +kernel
theorem d3_43 : decode prog_261_method_11_code 43 = .ok (.aload_n 0, 1) := by decide +kernel
theorem d3_44 : decode prog_261_method_11_code 44 = .ok (.getfield 9, 3) := by decide +kernel
theorem d3_47 : decode prog_261_method_11_code 47 = .ok (.iload_n 2, 1) := by decide +kernel
theorem d3_48 : decode prog_261_method_11_code 48 = .ok (.iload_n 3, 1) := by decide +kernel
theorem d3_49 : decode prog_261_method_11_code 49 = .ok (.multianewarray 80 3, 4) := by decide +kernel
theorem d3_53 : decode prog_261_method_11_code 53 = .ok (.putfield 42, 3) := by decide +kernel
theorem d3_56 : decode prog_261_method_11_code 56 = .ok (.return_, 1) := by decide +kernel
theorem pn_0 : plainName "com/example/syncline/syncline/tpcc/LongColumns" = true := by first | (simp [plainName, overriddenIn]; done) | decide +kernel
theorem pd_0 : parseMethodDescriptor "(II)I" = some ⟨[.int, .int], some .int⟩ := by decide +kernel
theorem ef_3 (m : MethodId) (x0 : Addr) (x1 : Int32) : entryFrame m #[(.ref x0), (.int x1)] 4 = mkF m 0 #[.val (.ref x0), .val (.int x1), .unset, .unset] [] := by first | (simp [entryFrame, mkF, argsToLocals, Value.category]; done) | rfl
def Q3 (Z : State) (a1 N : Nat) (h0 : Heap) (n0 : Nat) (v : Option Value) (h : Heap) (L : List Loc) : Prop := v = none ∧ Fr n0 L ∧ Keep h0 h [a1] ∧ ∃ co, n0 ≤ co ∧ own_G Z h a1 co N (fun _ _ => 0)
set_option maxRecDepth 65536 in
set_option maxHeartbeats 40000000 in
theorem rm3 (l : Launch) (Z : State) (a0 : Array Value) (hw : ∀ d ∈ tables_1, d.before a0 Z = true) (ws : List Jvm.Cond) (a1 N : Nat) (h0 : Heap) (n0 : Nat) (Z0 : n0 ≤ h0.size) (EX : Exa Z h0 a1 "com/example/syncline/syncline/tpcc/LongColumns") (FcolumnCount : Fld Z h0 a1 "com/example/syncline/syncline/tpcc/LongColumns" "columnCount" "I" (.int N.toInt32)) (Fslots : Fld Z h0 a1 "com/example/syncline/syncline/tpcc/LongColumns" "slots" "I" (.int 0)) (Fkeys : Fld Z h0 a1 "com/example/syncline/syncline/tpcc/LongColumns" "keys" "[[J" .null) (Fused : Fld Z h0 a1 "com/example/syncline/syncline/tpcc/LongColumns" "used" "[[Z" .null) (Fcolumns : Fld Z h0 a1 "com/example/syncline/syncline/tpcc/LongColumns" "columns" "[[[J" .null) (g1 : n0 ≤ a1) (hN4 : N ≤ 4) :
    MetFree l (⟨"com/example/syncline/syncline/tpcc/LongColumns", "allocate", "(I)V"⟩ : MethodName) (head1 (Jvm.Cond.code (⟨"com/example/syncline/syncline/tpcc/LongColumns", "allocate", "(I)V"⟩ : MethodName) prog_261_method_11_code 4 none :: ws) ({ frames := 1, cells := 13, slots := 6154, locals := 13 } : Room)) (fun aa_ U => aa_ = #[(.ref a1), (.int (1024 : Int32))] ∧ Z.Warmed39 U.vm ∧ U.heap = h0) (fun _ _ _ _ _ => True) (fun _ U o U' => ∃ v L, o = .returned v ∧ Q3 Z a1 N h0 n0 v U'.heap L ∧ FrameEnd U o U' L ({ frames := 1, cells := 13, slots := 6154, locals := 13 } : Room).cells ({ frames := 1, cells := 13, slots := 6154, locals := 13 } : Room).slots) := by
  refine own_met (Q := fun v h L => Q3 Z a1 N h0 n0 v h L) (plainFor_of_name pn_0) ?_
  intro p e s m below meth c s₁ hx hby hml hret hlk hown hnm hZ X0 e0
  have N0 := Fr.nil n0
  rw [ef_3 m a1 (1024 : Int32)]
  show OwnG p e below s _ _ _ (s₁.setTop (mkF m 0 #[.val (.ref a1), .val (.int (1024 : Int32)), .unset, .unset] []))
  refine own_by (fun t kk_ => XS.aloadN X0.here hx rfl (hb hby d3_0) rfl rfl kk_) ?_
  show OwnG p e below s _ _ _ (s₁.setTop (mkF m 1 #[.val (.ref a1), .val (.int (1024 : Int32)), .unset, .unset] [(.ref a1)]))
  refine own_by (fun t kk_ => XS.iloadN X0.here hx rfl (hb hby d3_1) rfl  kk_) ?_
  show OwnG p e below s _ _ _ (s₁.setTop (mkF m 2 #[.val (.ref a1), .val (.int (1024 : Int32)), .unset, .unset] [(.int (1024 : Int32)), (.ref a1)]))
  obtain ⟨T1, h1, X1, e1, W1, st1⟩ := putF X0 hx hZ hown (host := "") (Or.inl (hw _ (List.mem_of_getElem? (i := 15) rfl))) Via.refl e0 Fslots EX (Or.inl (hw _ (List.mem_of_getElem? (i := 16) rfl))) (hw _ (List.mem_of_getElem? (i := 1) rfl)) (ty := .int) (by decide) rfl rfl (g := (mkF m 2 #[.val (.ref a1), .val (.int (1024 : Int32)), .unset, .unset] [(.int (1024 : Int32)), (.ref a1)])) rfl rfl (hb hby d3_2)
  refine own_by (fun t kk_ => st1 _ kk_) ?_
  have f2 := Exa.wr W1 EX
  have f3 := Keep.wr (Keep.refl h0 [a1]) W1 (Or.inl (by simp))
  have f4 := Fld.other W1 FcolumnCount (Or.inr (slot_ne (Or.inr (hw _ (List.mem_of_getElem? (i := 10) rfl))) (Or.inl (hw _ (List.mem_of_getElem? (i := 16) rfl))) (by decide) (t := .int) (t' := .int) (by decide) (by decide)))
  have f6 := Fld.other W1 Fkeys (Or.inr (slot_ne (Or.inl (hw _ (List.mem_of_getElem? (i := 28) rfl))) (Or.inl (hw _ (List.mem_of_getElem? (i := 16) rfl))) (by decide) (t := (.array (.array .long))) (t' := .int) (by decide) (by decide)))
  have f7 := Fld.other W1 Fused (Or.inr (slot_ne (Or.inl (hw _ (List.mem_of_getElem? (i := 33) rfl))) (Or.inl (hw _ (List.mem_of_getElem? (i := 16) rfl))) (by decide) (t := (.array (.array .boolean))) (t' := .int) (by decide) (by decide)))
  have f8 := Fld.other W1 Fcolumns (Or.inr (slot_ne (Or.inl (hw _ (List.mem_of_getElem? (i := 37) rfl))) (Or.inl (hw _ (List.mem_of_getElem? (i := 16) rfl))) (by decide) (t := (.array (.array (.array .long)))) (t' := .int) (by decide) (by decide)))
  have f9 := Fld.same W1 Fslots
  have N1 := Fr.snoc X1 N0 g1
  have sz1 : n0 ≤ h1.size := by rw [W1.size]; exact Z0
  show OwnG p e below s _ _ _ (T1.setTop (mkF m 5 #[.val (.ref a1), .val (.int (1024 : Int32)), .unset, .unset] []))
  refine own_by (fun t kk_ => XS.iconst X1.here hx rfl (hb hby d3_5) kk_) ?_
  show OwnG p e below s _ _ _ (T1.setTop (mkF m 6 #[.val (.ref a1), .val (.int (1024 : Int32)), .unset, .unset] [(.int (1 : Int32))]))
  refine own_by (fun t kk_ => XS.iloadN X1.here hx rfl (hb hby d3_6) rfl  kk_) ?_
  show OwnG p e below s _ _ _ (T1.setTop (mkF m 7 #[.val (.ref a1), .val (.int (1024 : Int32)), .unset, .unset] [(.int (1024 : Int32)), (.int (1 : Int32))]))
  refine own_by (fun t kk_ => XS.bipush X1.here hx rfl (hb hby d3_7) kk_) ?_
  show OwnG p e below s _ _ _ (T1.setTop (mkF m 9 #[.val (.ref a1), .val (.int (1024 : Int32)), .unset, .unset] [(.int (13 : Int32)), (.int (1024 : Int32)), (.int (1 : Int32))]))
  refine own_by (fun t kk_ => XS.iushr X1.here hx rfl (hb hby d3_9) rfl kk_) ?_
  show OwnG p e below s _ _ _ (T1.setTop (mkF m 10 #[.val (.ref a1), .val (.int (1024 : Int32)), .unset, .unset] [(.int (((1024 : Int32).toUInt32 >>> ((13 : Int32) &&& 31).toUInt32).toInt32)), (.int (1 : Int32))]))
  obtain ⟨_, _, ⟨T10, L10, k10, n10⟩, -, X10, ⟨Lc10, hQ10, l10, y10, z10⟩, st10⟩ := Jvm.LawKit.callS X1 hx (y := (⟨"java/lang/Math", "max", "(II)I"⟩ : MethodName)) hown (mvT hZ (hw _ (List.mem_of_getElem? (i := 17) rfl))) (mvT hZ (hw _ (List.mem_of_getElem? (i := 18) rfl))) (mvT hZ (hw _ (List.mem_of_getElem? (i := 19) rfl))) (mvT hZ (hw _ (List.mem_of_getElem? (i := 20) rfl))) (by decide) (backOf (W := 0) (rm4 l Z a0 hw [] (1 : Int32) (((1024 : Int32).toUInt32 >>> ((13 : Int32) &&& 31).toUInt32).toInt32) (1 : Int32) h1 n0 sz1 (by decide)) hZ (hw _ (List.mem_of_getElem? (i := 20) rfl)) (hw _ (List.mem_of_getElem? (i := 19) rfl)) (by decide) (by decide)) (g := (mkF m 10 #[.val (.ref a1), .val (.int (1024 : Int32)), .unset, .unset] [(.int (((1024 : Int32).toUInt32 >>> ((13 : Int32) &&& 31).toUInt32).toInt32)), (.int (1 : Int32))])) rfl (by rw [hml]; rfl) (argsL := [(.int (1 : Int32)), (.int (((1024 : Int32).toUInt32 >>> ((13 : Int32) &&& 31).toUInt32).toInt32))]) (rest := []) (lenOf pd_0 rfl) rfl (by show 2 * 0 + _ ≤ _; exact Nat.le_of_eq rfl) (hb hby d3_10) (fun _ _ => ⟨rfl, e1, (by decide : 0 + 0 ≤ _), (by decide : 0 + 0 ≤ _)⟩)
  dsimp only [Pt.U, Pt.locs, Pt.cells, Pt.slots] at X10 l10 y10 z10 st10 hQ10
  subst l10 y10 z10
  refine own_by (fun t kk_ => st10 _ kk_) ?_
  obtain ⟨rfl, N10q, hh10⟩ := hQ10
  have N10 := Fr.app N1 N10q
  have f11 := f2
  rw [← hh10] at f11
  have f12 : Keep h0 T10.heap [a1] := by rw [hh10]; exact f3
  have f13 := f4
  rw [← hh10] at f13
  have f14 := f9
  rw [← hh10] at f14
  have f15 := f6
  rw [← hh10] at f15
  have f16 := f7
  rw [← hh10] at f16
  have f17 := f8
  rw [← hh10] at f17
  have sz10 : n0 ≤ T10.heap.size := by rw [hh10]; exact sz1
  show OwnG p e below s _ _ _ (T10.setTop (mkF m 13 #[.val (.ref a1), .val (.int (1024 : Int32)), .unset, .unset] [(.int (1 : Int32))]))
  refine own_by (fun t kk_ => XS.istoreN X10.here hx rfl (hb hby d3_13) rfl (l' := #[.val (.ref a1), .val (.int (1024 : Int32)), .val (.int (1 : Int32)), .unset]) rfl kk_) ?_
  show OwnG p e below s _ _ _ (T10.setTop (mkF m 14 #[.val (.ref a1), .val (.int (1024 : Int32)), .val (.int (1 : Int32)), .unset] []))
  refine own_by (fun t kk_ => XS.iloadN X10.here hx rfl (hb hby d3_14) rfl  kk_) ?_
  show OwnG p e below s _ _ _ (T10.setTop (mkF m 15 #[.val (.ref a1), .val (.int (1024 : Int32)), .val (.int (1 : Int32)), .unset] [(.int (1024 : Int32))]))
  refine own_by (fun t kk_ => XS.sipush X10.here hx rfl (hb hby d3_15) kk_) ?_
  show OwnG p e below s _ _ _ (T10.setTop (mkF m 18 #[.val (.ref a1), .val (.int (1024 : Int32)), .val (.int (1 : Int32)), .unset] [(.int (8192 : Int32)), (.int (1024 : Int32))]))
  obtain ⟨_, _, ⟨T18, L18, k18, n18⟩, -, X18, ⟨Lc18, hQ18, l18, y18, z18⟩, st18⟩ := Jvm.LawKit.callS X10 hx (y := (⟨"java/lang/Math", "min", "(II)I"⟩ : MethodName)) hown (mvT hZ (hw _ (List.mem_of_getElem? (i := 21) rfl))) (mvT hZ (hw _ (List.mem_of_getElem? (i := 22) rfl))) (mvT hZ (hw _ (List.mem_of_getElem? (i := 19) rfl))) (mvT hZ (hw _ (List.mem_of_getElem? (i := 23) rfl))) (by decide) (backOf (W := 0) (rm5 l Z a0 hw [] (1024 : Int32) (8192 : Int32) (1024 : Int32) T10.heap n0 sz10 (by decide)) hZ (hw _ (List.mem_of_getElem? (i := 23) rfl)) (hw _ (List.mem_of_getElem? (i := 19) rfl)) (by decide) (by decide)) (g := (mkF m 18 #[.val (.ref a1), .val (.int (1024 : Int32)), .val (.int (1 : Int32)), .unset] [(.int (8192 : Int32)), (.int (1024 : Int32))])) rfl (by rw [hml]; rfl) (argsL := [(.int (1024 : Int32)), (.int (8192 : Int32))]) (rest := []) (lenOf pd_0 rfl) rfl (by show 2 * 0 + _ ≤ _; exact Nat.le_of_eq rfl) (hb hby d3_18) (fun _ _ => ⟨rfl, (rfl : T10.heap = T10.heap), (by decide : 0 + 0 ≤ _), (by decide : 0 + 0 ≤ _)⟩)
  dsimp only [Pt.U, Pt.locs, Pt.cells, Pt.slots] at X18 l18 y18 z18 st18 hQ18
  subst l18 y18 z18
  refine own_by (fun t kk_ => st18 _ kk_) ?_
  obtain ⟨rfl, N18q, hh18⟩ := hQ18
  have N18 := Fr.app N10 N18q
  have f19 := f11
  rw [← hh18] at f19
  have f20 : Keep h0 T18.heap [a1] := by rw [hh18]; exact f12
  have f21 := f13
  rw [← hh18] at f21
  have f22 := f14
  rw [← hh18] at f22
  have f23 := f15
  rw [← hh18] at f23
  have f24 := f16
  rw [← hh18] at f24
  have f25 := f17
  rw [← hh18] at f25
  have sz18 : n0 ≤ T18.heap.size := by rw [hh18]; exact sz10
  show OwnG p e below s _ _ _ (T18.setTop (mkF m 21 #[.val (.ref a1), .val (.int (1024 : Int32)), .val (.int (1 : Int32)), .unset] [(.int (1024 : Int32))]))
  refine own_by (fun t kk_ => XS.istoreN X18.here hx rfl (hb hby d3_21) rfl (l' := #[.val (.ref a1), .val (.int (1024 : Int32)), .val (.int (1 : Int32)), .val (.int (1024 : Int32))]) rfl kk_) ?_
  show OwnG p e below s _ _ _ (T18.setTop (mkF m 22 #[.val (.ref a1), .val (.int (1024 : Int32)), .val (.int (1 : Int32)), .val (.int (1024 : Int32))] []))
  refine own_by (fun t kk_ => XS.aloadN X18.here hx rfl (hb hby d3_22) rfl rfl kk_) ?_
  show OwnG p e below s _ _ _ (T18.setTop (mkF m 23 #[.val (.ref a1), .val (.int (1024 : Int32)), .val (.int (1 : Int32)), .val (.int (1024 : Int32))] [(.ref a1)]))
  refine own_by (fun t kk_ => XS.iloadN X18.here hx rfl (hb hby d3_23) rfl  kk_) ?_
  show OwnG p e below s _ _ _ (T18.setTop (mkF m 24 #[.val (.ref a1), .val (.int (1024 : Int32)), .val (.int (1 : Int32)), .val (.int (1024 : Int32))] [(.int (1 : Int32)), (.ref a1)]))
  refine own_by (fun t kk_ => XS.iloadN X18.here hx rfl (hb hby d3_24) rfl  kk_) ?_
  show OwnG p e below s _ _ _ (T18.setTop (mkF m 25 #[.val (.ref a1), .val (.int (1024 : Int32)), .val (.int (1 : Int32)), .val (.int (1024 : Int32))] [(.int (1024 : Int32)), (.int (1 : Int32)), (.ref a1)]))
  obtain ⟨T26, h26, cA26, cP26, X26, e26, E26, -, -, -, -, st26⟩ := gridM X18 hx hZ hown (C := "[J") (ad := "[[J") (ty := .long) rfl rfl (hw _ (List.mem_of_getElem? (i := 24) rfl)) (hw _ (List.mem_of_getElem? (i := 25) rfl)) (hw _ (List.mem_of_getElem? (i := 26) rfl)) (rfl : T18.heap = T18.heap) (g := (mkF m 25 #[.val (.ref a1), .val (.int (1024 : Int32)), .val (.int (1 : Int32)), .val (.int (1024 : Int32))] [(.int (1024 : Int32)), (.int (1 : Int32)), (.ref a1)])) rfl (hb hby d3_25) rfl (by decide) (by decide) (N := 1) rfl rfl (cap := 1024) (by decide) (by decide) (by decide) rfl rfl (by decide) (by decide)
  obtain ⟨b26, g26⟩ : ∃ z, z = T18.heap.size := ⟨_, rfl⟩
  rw [← g26] at st26
  have ne27 : a1 ≠ b26 := fun q => absurd f19.lt (by rw [q, g26]; exact Nat.lt_irrefl _)
  have gg_b26 : n0 ≤ b26 := by rw [g26]; exact sz18
  have gh_b26 : h0.size ≤ b26 := by rw [g26]; exact f20.1
  have sz26 : n0 ≤ h26.size := Nat.le_trans sz18 E26.1
  refine own_by (fun t kk_ => st26 _ kk_) ?_
  have f28 := Exa.ext E26 f19
  have f29 := Keep.ext f20 E26
  have f30 := Fld.ext E26 f21
  have f31 := Fld.ext E26 f22
  have f32 := Fld.ext E26 f23
  have f33 := Fld.ext E26 f24
  have f34 := Fld.ext E26 f25
  show OwnG p e below s _ _ _ (T26.setTop (mkF m 29 #[.val (.ref a1), .val (.int (1024 : Int32)), .val (.int (1 : Int32)), .val (.int (1024 : Int32))] [(.ref b26), (.ref a1)]))
  obtain ⟨T35, h35, X35, e35, W35, st35⟩ := putF X26 hx hZ hown (host := "") (Or.inl (hw _ (List.mem_of_getElem? (i := 27) rfl))) Via.refl e26 f32 f28 (Or.inl (hw _ (List.mem_of_getElem? (i := 28) rfl))) (hw _ (List.mem_of_getElem? (i := 1) rfl)) (ty := (.array (.array .long))) (by decide) rfl rfl (g := (mkF m 29 #[.val (.ref a1), .val (.int (1024 : Int32)), .val (.int (1 : Int32)), .val (.int (1024 : Int32))] [(.ref b26), (.ref a1)])) rfl rfl (hb hby d3_29)
  refine own_by (fun t kk_ => st35 _ kk_) ?_
  have f36 := Exa.wr W35 f28
  have f37 := Keep.wr f29 W35 (Or.inl (by simp))
  have f38 := Fld.other W35 f30 (Or.inr (slot_ne (Or.inr (hw _ (List.mem_of_getElem? (i := 10) rfl))) (Or.inl (hw _ (List.mem_of_getElem? (i := 28) rfl))) (by decide) (t := .int) (t' := (.array (.array .long))) (by decide) (by decide)))
  have f39 := Fld.other W35 f31 (Or.inr (slot_ne (Or.inl (hw _ (List.mem_of_getElem? (i := 16) rfl))) (Or.inl (hw _ (List.mem_of_getElem? (i := 28) rfl))) (by decide) (t := .int) (t' := (.array (.array .long))) (by decide) (by decide)))
  have f41 := Fld.other W35 f33 (Or.inr (slot_ne (Or.inl (hw _ (List.mem_of_getElem? (i := 33) rfl))) (Or.inl (hw _ (List.mem_of_getElem? (i := 28) rfl))) (by decide) (t := (.array (.array .boolean))) (t' := (.array (.array .long))) (by decide) (by decide)))
  have f42 := Fld.other W35 f34 (Or.inr (slot_ne (Or.inl (hw _ (List.mem_of_getElem? (i := 37) rfl))) (Or.inl (hw _ (List.mem_of_getElem? (i := 28) rfl))) (by decide) (t := (.array (.array (.array .long)))) (t' := (.array (.array .long))) (by decide) (by decide)))
  have f43 := Fld.same W35 f32
  have N35 := Fr.snoc X35 N18 g1
  have sz35 : n0 ≤ h35.size := by rw [W35.size]; exact sz26
  show OwnG p e below s _ _ _ (T35.setTop (mkF m 32 #[.val (.ref a1), .val (.int (1024 : Int32)), .val (.int (1 : Int32)), .val (.int (1024 : Int32))] []))
  refine own_by (fun t kk_ => XS.aloadN X35.here hx rfl (hb hby d3_32) rfl rfl kk_) ?_
  show OwnG p e below s _ _ _ (T35.setTop (mkF m 33 #[.val (.ref a1), .val (.int (1024 : Int32)), .val (.int (1 : Int32)), .val (.int (1024 : Int32))] [(.ref a1)]))
  refine own_by (fun t kk_ => XS.iloadN X35.here hx rfl (hb hby d3_33) rfl  kk_) ?_
  show OwnG p e below s _ _ _ (T35.setTop (mkF m 34 #[.val (.ref a1), .val (.int (1024 : Int32)), .val (.int (1 : Int32)), .val (.int (1024 : Int32))] [(.int (1 : Int32)), (.ref a1)]))
  refine own_by (fun t kk_ => XS.iloadN X35.here hx rfl (hb hby d3_34) rfl  kk_) ?_
  show OwnG p e below s _ _ _ (T35.setTop (mkF m 35 #[.val (.ref a1), .val (.int (1024 : Int32)), .val (.int (1 : Int32)), .val (.int (1024 : Int32))] [(.int (1024 : Int32)), (.int (1 : Int32)), (.ref a1)]))
  obtain ⟨T44, h44, cA44, cP44, X44, e44, E44, -, -, -, -, st44⟩ := gridM X35 hx hZ hown (C := "[Z") (ad := "[[Z") (ty := .boolean) rfl rfl (hw _ (List.mem_of_getElem? (i := 29) rfl)) (hw _ (List.mem_of_getElem? (i := 30) rfl)) (hw _ (List.mem_of_getElem? (i := 31) rfl)) e35 (g := (mkF m 35 #[.val (.ref a1), .val (.int (1024 : Int32)), .val (.int (1 : Int32)), .val (.int (1024 : Int32))] [(.int (1024 : Int32)), (.int (1 : Int32)), (.ref a1)])) rfl (hb hby d3_35) rfl (by decide) (by decide) (N := 1) rfl rfl (cap := 1024) (by decide) (by decide) (by decide) rfl rfl (by decide) (by decide)
  obtain ⟨b44, g44⟩ : ∃ z, z = h35.size := ⟨_, rfl⟩
  rw [← g44] at st44
  have ne45 : a1 ≠ b44 := fun q => absurd f36.lt (by rw [q, g44]; exact Nat.lt_irrefl _)
  have gg_b44 : n0 ≤ b44 := by rw [g44]; exact sz35
  have gh_b44 : h0.size ≤ b44 := by rw [g44]; exact f37.1
  have sz44 : n0 ≤ h44.size := Nat.le_trans sz35 E44.1
  refine own_by (fun t kk_ => st44 _ kk_) ?_
  have f46 := Exa.ext E44 f36
  have f47 := Keep.ext f37 E44
  have f48 := Fld.ext E44 f38
  have f49 := Fld.ext E44 f39
  have f50 := Fld.ext E44 f43
  have f51 := Fld.ext E44 f41
  have f52 := Fld.ext E44 f42
  show OwnG p e below s _ _ _ (T44.setTop (mkF m 39 #[.val (.ref a1), .val (.int (1024 : Int32)), .val (.int (1 : Int32)), .val (.int (1024 : Int32))] [(.ref b44), (.ref a1)]))
  obtain ⟨T53, h53, X53, e53, W53, st53⟩ := putF X44 hx hZ hown (host := "") (Or.inl (hw _ (List.mem_of_getElem? (i := 32) rfl))) Via.refl e44 f51 f46 (Or.inl (hw _ (List.mem_of_getElem? (i := 33) rfl))) (hw _ (List.mem_of_getElem? (i := 1) rfl)) (ty := (.array (.array .boolean))) (by decide) rfl rfl (g := (mkF m 39 #[.val (.ref a1), .val (.int (1024 : Int32)), .val (.int (1 : Int32)), .val (.int (1024 : Int32))] [(.ref b44), (.ref a1)])) rfl rfl (hb hby d3_39)
  refine own_by (fun t kk_ => st53 _ kk_) ?_
  have f54 := Exa.wr W53 f46
  have f55 := Keep.wr f47 W53 (Or.inl (by simp))
  have f56 := Fld.other W53 f48 (Or.inr (slot_ne (Or.inr (hw _ (List.mem_of_getElem? (i := 10) rfl))) (Or.inl (hw _ (List.mem_of_getElem? (i := 33) rfl))) (by decide) (t := .int) (t' := (.array (.array .boolean))) (by decide) (by decide)))
  have f57 := Fld.other W53 f49 (Or.inr (slot_ne (Or.inl (hw _ (List.mem_of_getElem? (i := 16) rfl))) (Or.inl (hw _ (List.mem_of_getElem? (i := 33) rfl))) (by decide) (t := .int) (t' := (.array (.array .boolean))) (by decide) (by decide)))
  have f58 := Fld.other W53 f50 (Or.inr (slot_ne (Or.inl (hw _ (List.mem_of_getElem? (i := 28) rfl))) (Or.inl (hw _ (List.mem_of_getElem? (i := 33) rfl))) (by decide) (t := (.array (.array .long))) (t' := (.array (.array .boolean))) (by decide) (by decide)))
  have f60 := Fld.other W53 f52 (Or.inr (slot_ne (Or.inl (hw _ (List.mem_of_getElem? (i := 37) rfl))) (Or.inl (hw _ (List.mem_of_getElem? (i := 33) rfl))) (by decide) (t := (.array (.array (.array .long)))) (t' := (.array (.array .boolean))) (by decide) (by decide)))
  have f61 := Fld.same W53 f51
  have N53 := Fr.snoc X53 N35 g1
  have sz53 : n0 ≤ h53.size := by rw [W53.size]; exact sz44
  show OwnG p e below s _ _ _ (T53.setTop (mkF m 42 #[.val (.ref a1), .val (.int (1024 : Int32)), .val (.int (1 : Int32)), .val (.int (1024 : Int32))] []))
  refine own_by (fun t kk_ => XS.aloadN X53.here hx rfl (hb hby d3_42) rfl rfl kk_) ?_
  show OwnG p e below s _ _ _ (T53.setTop (mkF m 43 #[.val (.ref a1), .val (.int (1024 : Int32)), .val (.int (1 : Int32)), .val (.int (1024 : Int32))] [(.ref a1)]))
  refine own_by (fun t kk_ => XS.aloadN X53.here hx rfl (hb hby d3_43) rfl rfl kk_) ?_
  show OwnG p e below s _ _ _ (T53.setTop (mkF m 44 #[.val (.ref a1), .val (.int (1024 : Int32)), .val (.int (1 : Int32)), .val (.int (1024 : Int32))] [(.ref a1), (.ref a1)]))
  obtain ⟨T62, X62, e62, st62⟩ := getF X53 hx hZ hown (host := "") (Or.inl (hw _ (List.mem_of_getElem? (i := 9) rfl))) Via.refl e53 f56 (g := (mkF m 44 #[.val (.ref a1), .val (.int (1024 : Int32)), .val (.int (1 : Int32)), .val (.int (1024 : Int32))] [(.ref a1), (.ref a1)])) rfl rfl (hb hby d3_44)
  refine own_by (fun t kk_ => st62 _ kk_) ?_
  show OwnG p e below s _ _ _ (T62.setTop (mkF m 47 #[.val (.ref a1), .val (.int (1024 : Int32)), .val (.int (1 : Int32)), .val (.int (1024 : Int32))] [(.int N.toInt32), (.ref a1)]))
  refine own_by (fun t kk_ => XS.iloadN X62.here hx rfl (hb hby d3_47) rfl  kk_) ?_
  show OwnG p e below s _ _ _ (T62.setTop (mkF m 48 #[.val (.ref a1), .val (.int (1024 : Int32)), .val (.int (1 : Int32)), .val (.int (1024 : Int32))] [(.int (1 : Int32)), (.int N.toInt32), (.ref a1)]))
  refine own_by (fun t kk_ => XS.iloadN X62.here hx rfl (hb hby d3_48) rfl  kk_) ?_
  show OwnG p e below s _ _ _ (T62.setTop (mkF m 49 #[.val (.ref a1), .val (.int (1024 : Int32)), .val (.int (1 : Int32)), .val (.int (1024 : Int32))] [(.int (1024 : Int32)), (.int (1 : Int32)), (.int N.toInt32), (.ref a1)]))
  obtain ⟨T63, h63, X63, e63, E63, AC63, AJ63, st63⟩ := own_cube X62 hx hZ hown (ad := "[[[J") (ty := .long) rfl (hw _ (List.mem_of_getElem? (i := 34) rfl)) (hw _ (List.mem_of_getElem? (i := 35) rfl)) (hw _ (List.mem_of_getElem? (i := 25) rfl)) (hw _ (List.mem_of_getElem? (i := 26) rfl)) e62 (g := (mkF m 49 #[.val (.ref a1), .val (.int (1024 : Int32)), .val (.int (1 : Int32)), .val (.int (1024 : Int32))] [(.int (1024 : Int32)), (.int (1 : Int32)), (.int N.toInt32), (.ref a1)])) rfl (hb hby d3_49) rfl (own_ix (n := 5) (by omega) (by decide)).1 (by decide) (N := N) (M := 1024) (own_ix (n := 5) (by omega) (by decide)).2.1 rfl (by omega) (by decide) (by decide) rfl rfl (by show _ ≤ 13; omega) (by show _ ≤ 6154; omega)
  have X63 := X63.more (cells' := 13) (slots' := 6154) (by omega) (by omega)
  obtain ⟨co, g63⟩ : ∃ z, z = h53.size := ⟨_, rfl⟩
  rw [← g63] at AC63 AJ63 st63
  have ne64 : a1 ≠ co := fun q => absurd f54.lt (by rw [q, g63]; exact Nat.lt_irrefl _)
  have gg_co : n0 ≤ co := by rw [g63]; exact sz53
  have gh_co : h0.size ≤ co := by rw [g63]; exact f55.1
  have sz63 : n0 ≤ h63.size := Nat.le_trans sz53 E63.1
  refine own_by (fun t kk_ => st63 _ kk_) ?_
  have f65 := Exa.ext E63 f54
  have f66 := Keep.ext f55 E63
  have f67 := Fld.ext E63 f56
  have f68 := Fld.ext E63 f57
  have f69 := Fld.ext E63 f58
  have f70 := Fld.ext E63 f61
  have f71 := Fld.ext E63 f60
  show OwnG p e below s _ _ _ (T63.setTop (mkF m 53 #[.val (.ref a1), .val (.int (1024 : Int32)), .val (.int (1 : Int32)), .val (.int (1024 : Int32))] [(.ref co), (.ref a1)]))
  have halt : a1 < co := Nat.lt_of_lt_of_le EX.lt gh_co
  obtain ⟨T72, h72, X72, e72, W72, st72⟩ := putF X63 hx hZ hown (host := "") (Or.inl (hw _ (List.mem_of_getElem? (i := 36) rfl))) Via.refl e63 f71 f65 (Or.inl (hw _ (List.mem_of_getElem? (i := 37) rfl))) (hw _ (List.mem_of_getElem? (i := 1) rfl)) (ty := (.array (.array (.array .long)))) (by decide) rfl rfl (g := (mkF m 53 #[.val (.ref a1), .val (.int (1024 : Int32)), .val (.int (1 : Int32)), .val (.int (1024 : Int32))] [(.ref co), (.ref a1)])) rfl rfl (hb hby d3_53)
  refine own_by (fun t kk_ => st72 _ kk_) ?_
  have f73 := Exa.wr W72 f65
  have f74 := Keep.wr f66 W72 (Or.inl (by simp))
  have f75 := Fld.other W72 f67 (Or.inr (slot_ne (Or.inr (hw _ (List.mem_of_getElem? (i := 10) rfl))) (Or.inl (hw _ (List.mem_of_getElem? (i := 37) rfl))) (by decide) (t := .int) (t' := (.array (.array (.array .long)))) (by decide) (by decide)))
  have f76 := Fld.other W72 f68 (Or.inr (slot_ne (Or.inl (hw _ (List.mem_of_getElem? (i := 16) rfl))) (Or.inl (hw _ (List.mem_of_getElem? (i := 37) rfl))) (by decide) (t := .int) (t' := (.array (.array (.array .long)))) (by decide) (by decide)))
  have f77 := Fld.other W72 f69 (Or.inr (slot_ne (Or.inl (hw _ (List.mem_of_getElem? (i := 28) rfl))) (Or.inl (hw _ (List.mem_of_getElem? (i := 37) rfl))) (by decide) (t := (.array (.array .long))) (t' := (.array (.array (.array .long)))) (by decide) (by decide)))
  have f78 := Fld.other W72 f70 (Or.inr (slot_ne (Or.inl (hw _ (List.mem_of_getElem? (i := 33) rfl))) (Or.inl (hw _ (List.mem_of_getElem? (i := 37) rfl))) (by decide) (t := (.array (.array .boolean))) (t' := (.array (.array (.array .long)))) (by decide) (by decide)))
  have f80 := Fld.same W72 f71
  have N72 := Fr.snoc X72 N53 g1
  have sz72 : n0 ≤ h72.size := by rw [W72.size]; exact sz63
  show OwnG p e below s _ _ _ (T72.setTop (mkF m 56 #[.val (.ref a1), .val (.int (1024 : Int32)), .val (.int (1 : Int32)), .val (.int (1024 : Int32))] []))
  exact own_outV X72 hx hret hlk (hb hby d3_56) (by show _ ∧ _; rw [e72]; exact ⟨rfl, N72, f74, co, gg_co, f73, f80, (Nat.lt_of_lt_of_le EX.lt (gh_co : _ ≤ co)), OwnA.other W72 AC63 (Ne.symm ne64), fun j hj => ⟨OwnA.other W72 (AJ63 j hj).1 (own_far halt), OwnA.other W72 (AJ63 j hj).2 (own_far2 halt)⟩⟩) (by decide) (by decide)
theorem d1_0 : decode prog_261_method_1_code 0 = .ok (.aload_n 0, 1) := by decide +kernel
theorem d1_1 : decode prog_261_method_1_code 1 = .ok (.invokespecial 3, 3) := by decide +kernel
theorem d1_4 : decode prog_261_method_1_code 4 = .ok (.aload_n 0, 1) := by decide +kernel
theorem d1_5 : decode prog_261_method_1_code 5 = .ok (.iload_n 1, 1) := by decide +kernel
theorem d1_6 : decode prog_261_method_1_code 6 = .ok (.putfield 9, 3) := by decide +kernel
theorem d1_9 : decode prog_261_method_1_code 9 = .ok (.aload_n 0, 1) := by decide +kernel
theorem d1_10 : decode prog_261_method_1_code 10 = .ok (.sipush 1024, 3) := by decide +kernel
theorem d1_13 : decode prog_261_method_1_code 13 = .ok (.invokevirtual 13, 3) := by decide +kernel
theorem d1_16 : decode prog_261_method_1_code 16 = .ok (.return_, 1) := by decide +kernel
theorem pd_1 : parseMethodDescriptor "()V" = some ⟨[], none⟩ := by decide +kernel
theorem pd_2 : parseMethodDescriptor "(I)V" = some ⟨[.int], none⟩ := by decide +kernel
theorem ef_1 (m : MethodId) (x0 : Addr) (x1 : Int32) : entryFrame m #[(.ref x0), (.int x1)] 2 = mkF m 0 #[.val (.ref x0), .val (.int x1)] [] := by first | (simp [entryFrame, mkF, argsToLocals, Value.category]; done) | rfl
def Q1 (Z : State) (a1 N : Nat) (h0 : Heap) (n0 : Nat) (v : Option Value) (h : Heap) (L : List Loc) : Prop := v = none ∧ Fr n0 L ∧ ∃ co, n0 ≤ co ∧ own_G Z h a1 co N (fun _ _ => 0)
set_option maxRecDepth 65536 in
set_option maxHeartbeats 40000000 in
theorem rm1 (l : Launch) (Z : State) (a0 : Array Value) (hw : ∀ d ∈ tables_1, d.before a0 Z = true) (ws : List Jvm.Cond) (a1 N : Nat) (h0 : Heap) (n0 : Nat) (Z0 : n0 ≤ h0.size) (EX : Exa Z h0 a1 "com/example/syncline/syncline/tpcc/LongColumns") (FcolumnCount : Fld Z h0 a1 "com/example/syncline/syncline/tpcc/LongColumns" "columnCount" "I" (.int 0)) (Fslots : Fld Z h0 a1 "com/example/syncline/syncline/tpcc/LongColumns" "slots" "I" (.int 0)) (Fkeys : Fld Z h0 a1 "com/example/syncline/syncline/tpcc/LongColumns" "keys" "[[J" .null) (Fused : Fld Z h0 a1 "com/example/syncline/syncline/tpcc/LongColumns" "used" "[[Z" .null) (Fcolumns : Fld Z h0 a1 "com/example/syncline/syncline/tpcc/LongColumns" "columns" "[[[J" .null) (g1 : n0 ≤ a1) (hN4 : N ≤ 4) :
    MetFree l (⟨"com/example/syncline/syncline/tpcc/LongColumns", "<init>", "(I)V"⟩ : MethodName) (head1 (Jvm.Cond.code (⟨"com/example/syncline/syncline/tpcc/LongColumns", "<init>", "(I)V"⟩ : MethodName) prog_261_method_1_code 2 none :: ws) ({ frames := 2, cells := 13, slots := 6154, locals := 28 } : Room)) (fun aa_ U => aa_ = #[(.ref a1), (.int N.toInt32)] ∧ Z.Warmed39 U.vm ∧ U.heap = h0) (fun _ _ _ _ _ => True) (fun _ U o U' => ∃ v L, o = .returned v ∧ Q1 Z a1 N h0 n0 v U'.heap L ∧ FrameEnd U o U' L ({ frames := 2, cells := 13, slots := 6154, locals := 28 } : Room).cells ({ frames := 2, cells := 13, slots := 6154, locals := 28 } : Room).slots) := by
  refine own_met (Q := fun v h L => Q1 Z a1 N h0 n0 v h L) (plainFor_of_name pn_0) ?_
  intro p e s m below meth c s₁ hx hby hml hret hlk hown hnm hZ X0 e0
  have N0 := Fr.nil n0
  rw [ef_1 m a1 N.toInt32]
  show OwnG p e below s _ _ _ (s₁.setTop (mkF m 0 #[.val (.ref a1), .val (.int N.toInt32)] []))
  refine own_by (fun t kk_ => XS.aloadN X0.here hx rfl (hb hby d1_0) rfl rfl kk_) ?_
  show OwnG p e below s _ _ _ (s₁.setTop (mkF m 1 #[.val (.ref a1), .val (.int N.toInt32)] [(.ref a1)]))
  obtain ⟨T1, X1, e1, st1⟩ := initO X0 hx hZ hown (hw _ (List.mem_of_getElem? (i := 6) rfl)) (hw _ (List.mem_of_getElem? (i := 7) rfl)) (hw _ (List.mem_of_getElem? (i := 8) rfl)) e0 (g := (mkF m 1 #[.val (.ref a1), .val (.int N.toInt32)] [(.ref a1)])) rfl (by rw [hml]; rfl) rfl (hb hby d1_1) (by decide) (W := 0) (by show 2 * 0 + _ ≤ _; exact Nat.le_of_eq rfl) (by decide)
  refine own_by (fun t kk_ => st1 _ kk_) ?_
  show OwnG p e below s _ _ _ (T1.setTop (mkF m 4 #[.val (.ref a1), .val (.int N.toInt32)] []))
  refine own_by (fun t kk_ => XS.aloadN X1.here hx rfl (hb hby d1_4) rfl rfl kk_) ?_
  show OwnG p e below s _ _ _ (T1.setTop (mkF m 5 #[.val (.ref a1), .val (.int N.toInt32)] [(.ref a1)]))
  refine own_by (fun t kk_ => XS.iloadN X1.here hx rfl (hb hby d1_5) rfl  kk_) ?_
  show OwnG p e below s _ _ _ (T1.setTop (mkF m 6 #[.val (.ref a1), .val (.int N.toInt32)] [(.int N.toInt32), (.ref a1)]))
  obtain ⟨T2, h2, X2, e2, W2, st2⟩ := putF X1 hx hZ hown (host := "") (Or.inl (hw _ (List.mem_of_getElem? (i := 9) rfl))) Via.refl e1 FcolumnCount EX (Or.inr ⟨(hw _ (List.mem_of_getElem? (i := 10) rfl)), rfl, hnm⟩) (hw _ (List.mem_of_getElem? (i := 1) rfl)) (ty := .int) (by decide) rfl rfl (g := (mkF m 6 #[.val (.ref a1), .val (.int N.toInt32)] [(.int N.toInt32), (.ref a1)])) rfl rfl (hb hby d1_6)
  refine own_by (fun t kk_ => st2 _ kk_) ?_
  have f3 := Exa.wr W2 EX
  have f5 := Fld.other W2 Fslots (Or.inr (slot_ne (Or.inl (hw _ (List.mem_of_getElem? (i := 16) rfl))) (Or.inr (hw _ (List.mem_of_getElem? (i := 10) rfl))) (by decide) (t := .int) (t' := .int) (by decide) (by decide)))
  have f6 := Fld.other W2 Fkeys (Or.inr (slot_ne (Or.inl (hw _ (List.mem_of_getElem? (i := 28) rfl))) (Or.inr (hw _ (List.mem_of_getElem? (i := 10) rfl))) (by decide) (t := (.array (.array .long))) (t' := .int) (by decide) (by decide)))
  have f7 := Fld.other W2 Fused (Or.inr (slot_ne (Or.inl (hw _ (List.mem_of_getElem? (i := 33) rfl))) (Or.inr (hw _ (List.mem_of_getElem? (i := 10) rfl))) (by decide) (t := (.array (.array .boolean))) (t' := .int) (by decide) (by decide)))
  have f8 := Fld.other W2 Fcolumns (Or.inr (slot_ne (Or.inl (hw _ (List.mem_of_getElem? (i := 37) rfl))) (Or.inr (hw _ (List.mem_of_getElem? (i := 10) rfl))) (by decide) (t := (.array (.array (.array .long)))) (t' := .int) (by decide) (by decide)))
  have f9 := Fld.same W2 FcolumnCount
  have N2 := Fr.snoc X2 N0 g1
  have sz2 : n0 ≤ h2.size := by rw [W2.size]; exact Z0
  show OwnG p e below s _ _ _ (T2.setTop (mkF m 9 #[.val (.ref a1), .val (.int N.toInt32)] []))
  refine own_by (fun t kk_ => XS.aloadN X2.here hx rfl (hb hby d1_9) rfl rfl kk_) ?_
  show OwnG p e below s _ _ _ (T2.setTop (mkF m 10 #[.val (.ref a1), .val (.int N.toInt32)] [(.ref a1)]))
  refine own_by (fun t kk_ => XS.sipush X2.here hx rfl (hb hby d1_10) kk_) ?_
  show OwnG p e below s _ _ _ (T2.setTop (mkF m 13 #[.val (.ref a1), .val (.int N.toInt32)] [(.int (1024 : Int32)), (.ref a1)]))
  obtain ⟨cq10, q10, q10'⟩ := Exa.cell f3
  obtain ⟨_, _, ⟨T10, L10, k10, n10⟩, -, X10, ⟨Lc10, hQ10, l10, y10, z10⟩, st10⟩ := X2.privateBack hx (y := (⟨"com/example/syncline/syncline/tpcc/LongColumns", "allocate", "(I)V"⟩ : MethodName)) hown (mvT hZ (hw _ (List.mem_of_getElem? (i := 11) rfl))) (mvT hZ (hw _ (List.mem_of_getElem? (i := 12) rfl))) (own_selp hZ (y := (⟨"com/example/syncline/syncline/tpcc/LongColumns", "allocate", "(I)V"⟩ : MethodName)) (hw _ (List.mem_of_getElem? (i := 1) rfl)) (hw _ (List.mem_of_getElem? (i := 13) rfl)) (hw _ (List.mem_of_getElem? (i := 12) rfl)) (by decide)) (Cond.privateMethod_at (mvP hZ (hw _ (List.mem_of_getElem? (i := 13) rfl)) (args := #[]))) (mvT hZ (hw _ (List.mem_of_getElem? (i := 14) rfl))) (by decide) (backOf (W := 0) (rm3 l Z a0 hw [] a1 N h2 n0 sz2 f3 f9 f5 f6 f7 f8 g1 hN4) hZ (hw _ (List.mem_of_getElem? (i := 14) rfl)) (hw _ (List.mem_of_getElem? (i := 2) rfl)) (by decide) (by decide)) (g := (mkF m 13 #[.val (.ref a1), .val (.int N.toInt32)] [(.int (1024 : Int32)), (.ref a1)])) rfl (by rw [hml]; rfl) (Steps.refl _) (a := a1) (by rw [e2]; exact q10) q10' (argsL := [(.int (1024 : Int32))]) (rest := []) (lenOf pd_2 rfl) rfl (by show 2 * 0 + _ ≤ _; exact Nat.le_of_eq rfl) (hb hby d1_13) (fun _ _ => ⟨rfl, e2, (by decide : 0 + 13 ≤ _), (by decide : 0 + 6154 ≤ _)⟩)
  dsimp only [Pt.U, Pt.locs, Pt.cells, Pt.slots] at X10 l10 y10 z10 st10 hQ10
  subst l10 y10 z10
  refine own_by (fun t kk_ => st10.trans kk_) ?_
  obtain ⟨rfl, N10q, K10, co, gco, G⟩ := hQ10
  have N10 := Fr.app N2 N10q
  show OwnG p e below s _ _ _ (T10.setTop (mkF m 16 #[.val (.ref a1), .val (.int N.toInt32)] []))
  exact own_outV X10 hx hret hlk (hb hby d1_16) (⟨rfl, N10, co, gco, G⟩) (by decide) (by decide)
theorem d6_0 : decode prog_261_method_5_code 0 = .ok (.aload_n 0, 1) := by decide +kernel
theorem d6_1 : decode prog_261_method_5_code 1 = .ok (.getfield 42, 3) := by decide +kernel
theorem d6_4 : decode prog_261_method_5_code 4 = .ok (.iload_n 2, 1) := by decide +kernel
theorem d6_5 : decode prog_261_method_5_code 5 = .ok (.aaload, 1) := by decide +kernel
theorem d6_6 : decode prog_261_method_5_code 6 = .ok (.iload_n 1, 1) := by decide +kernel
theorem d6_7 : decode prog_261_method_5_code 7 = .ok (.bipush 13, 2) := by decide +kernel
theorem d6_9 : decode prog_261_method_5_code 9 = .ok (.iushr, 1) := by decide +kernel
theorem d6_10 : decode prog_261_method_5_code 10 = .ok (.aaload, 1) := by decide +kernel
theorem d6_11 : decode prog_261_method_5_code 11 = .ok (.iload_n 1, 1) := by decide +kernel
theorem d6_12 : decode prog_261_method_5_code 12 = .ok (.sipush 8191, 3) := by decide +kernel
theorem d6_15 : decode prog_261_method_5_code 15 = .ok (.iand, 1) := by decide +kernel
theorem d6_16 : decode prog_261_method_5_code 16 = .ok (.lload_n 3, 1) := by decide +kernel
theorem d6_17 : decode prog_261_method_5_code 17 = .ok (.lastore, 1) := by decide +kernel
theorem d6_18 : decode prog_261_method_5_code 18 = .ok (.return_, 1) := by decide +kernel
theorem ef_6 (m : MethodId) (x0 : Addr) (x1 : Int32) (x2 : Int32) (x3 : Int64) : entryFrame m #[(.ref x0), (.int x1), (.int x2), (.long x3)] 5 = mkF m 0 #[.val (.ref x0), .val (.int x1), .val (.int x2), .val (.long x3), .second] [] := by first | (simp [entryFrame, mkF, argsToLocals, Value.category]; done) | rfl
def Q6 (Z : State) (a1 co N cl sl : Nat) (F : Nat → Nat → Int64) (vv : Int64) (h0 : Heap) (n0 : Nat) (v : Option Value) (h : Heap) (L : List Loc) : Prop := v = none ∧ Fr n0 L ∧ own_G Z h a1 co N (own_U F cl sl vv)
set_option maxRecDepth 65536 in
set_option maxHeartbeats 40000000 in
theorem rm6 (l : Launch) (Z : State) (a0 : Array Value) (hw : ∀ d ∈ tables_1, d.before a0 Z = true) (ws : List Jvm.Cond) (a1 co N cl sl : Nat) (F : Nat → Nat → Int64) (vv : Int64) (h0 : Heap) (n0 : Nat) (Z0 : n0 ≤ h0.size) (G : own_G Z h0 a1 co N F) (hN4 : N ≤ 4) (hcl : cl < N) (hsl : sl < 1024) (gco : n0 ≤ co) :
    MetFree l (⟨"com/example/syncline/syncline/tpcc/LongColumns", "set", "(IIJ)V"⟩ : MethodName) (head1 (Jvm.Cond.code (⟨"com/example/syncline/syncline/tpcc/LongColumns", "set", "(IIJ)V"⟩ : MethodName) prog_261_method_5_code 5 none :: ws) ({ frames := 0, cells := 0, slots := 0, locals := 0 } : Room)) (fun aa_ U => aa_ = #[(.ref a1), (.int sl.toInt32), (.int cl.toInt32), (.long vv)] ∧ Z.Warmed39 U.vm ∧ U.heap = h0) (fun _ _ _ _ _ => True) (fun _ U o U' => ∃ v L, o = .returned v ∧ Q6 Z a1 co N cl sl F vv h0 n0 v U'.heap L ∧ FrameEnd U o U' L ({ frames := 0, cells := 0, slots := 0, locals := 0 } : Room).cells ({ frames := 0, cells := 0, slots := 0, locals := 0 } : Room).slots) := by
  refine own_met (Q := fun v h L => Q6 Z a1 co N cl sl F vv h0 n0 v h L) (plainFor_of_name pn_0) ?_
  intro p e s m below meth c s₁ hx hby hml hret hlk hown hnm hZ X0 e0
  have N0 := Fr.nil n0
  rw [ef_6 m a1 sl.toInt32 cl.toInt32 vv]
  show OwnG p e below s _ _ _ (s₁.setTop (mkF m 0 #[.val (.ref a1), .val (.int sl.toInt32), .val (.int cl.toInt32), .val (.long vv), .second] []))
  refine own_by (fun t kk_ => XS.aloadN X0.here hx rfl (hb hby d6_0) rfl rfl kk_) ?_
  show OwnG p e below s _ _ _ (s₁.setTop (mkF m 1 #[.val (.ref a1), .val (.int sl.toInt32), .val (.int cl.toInt32), .val (.long vv), .second] [(.ref a1)]))
  obtain ⟨T1, X1, e1, st1⟩ := getF X0 hx hZ hown (host := "") (Or.inl (hw _ (List.mem_of_getElem? (i := 36) rfl))) Via.refl e0 G.2.1 (g := (mkF m 1 #[.val (.ref a1), .val (.int sl.toInt32), .val (.int cl.toInt32), .val (.long vv), .second] [(.ref a1)])) rfl rfl (hb hby d6_1)
  refine own_by (fun t kk_ => st1 _ kk_) ?_
  show OwnG p e below s _ _ _ (T1.setTop (mkF m 4 #[.val (.ref a1), .val (.int sl.toInt32), .val (.int cl.toInt32), .val (.long vv), .second] [(.ref co)]))
  refine own_by (fun t kk_ => XS.iloadN X1.here hx rfl (hb hby d6_4) rfl  kk_) ?_
  show OwnG p e below s _ _ _ (T1.setTop (mkF m 5 #[.val (.ref a1), .val (.int sl.toInt32), .val (.int cl.toInt32), .val (.long vv), .second] [(.int cl.toInt32), (.ref co)]))
  refine own_by (fun t kk_ => own_ldR X1 hx hZ e1 G.2.2.2.1 (j := cl.toInt32) (i := cl) (own_ix hcl (by omega)) (v := (.ref (co + 1 + 2 * cl))) rfl rfl (g := (mkF m 5 #[.val (.ref a1), .val (.int sl.toInt32), .val (.int cl.toInt32), .val (.long vv), .second] [(.int cl.toInt32), (.ref co)])) rfl rfl (hb hby d6_5) _ kk_) ?_
  show OwnG p e below s _ _ _ (T1.setTop (mkF m 6 #[.val (.ref a1), .val (.int sl.toInt32), .val (.int cl.toInt32), .val (.long vv), .second] [(.ref (co + 1 + 2 * cl))]))
  refine own_by (fun t kk_ => XS.iloadN X1.here hx rfl (hb hby d6_6) rfl  kk_) ?_
  show OwnG p e below s _ _ _ (T1.setTop (mkF m 7 #[.val (.ref a1), .val (.int sl.toInt32), .val (.int cl.toInt32), .val (.long vv), .second] [(.int sl.toInt32), (.ref (co + 1 + 2 * cl))]))
  refine own_by (fun t kk_ => XS.bipush X1.here hx rfl (hb hby d6_7) kk_) ?_
  show OwnG p e below s _ _ _ (T1.setTop (mkF m 9 #[.val (.ref a1), .val (.int sl.toInt32), .val (.int cl.toInt32), .val (.long vv), .second] [(.int (13 : Int32)), (.int sl.toInt32), (.ref (co + 1 + 2 * cl))]))
  refine own_by (fun t kk_ => XS.iushr X1.here hx rfl (hb hby d6_9) rfl kk_) ?_
  show OwnG p e below s _ _ _ (T1.setTop (mkF m 10 #[.val (.ref a1), .val (.int sl.toInt32), .val (.int cl.toInt32), .val (.long vv), .second] [(.int ((sl.toInt32.toUInt32 >>> ((13 : Int32) &&& 31).toUInt32).toInt32)), (.ref (co + 1 + 2 * cl))]))
  rw [own_page hsl]
  show OwnG p e below s _ _ _ (T1.setTop (mkF m 10 #[.val (.ref a1), .val (.int sl.toInt32), .val (.int cl.toInt32), .val (.long vv), .second] [(.int (0 : Int32)), (.ref (co + 1 + 2 * cl))]))
  refine own_by (fun t kk_ => own_ldR X1 hx hZ e1 (G.2.2.2.2 cl hcl).1 (j := (0 : Int32)) (i := 0) own_zix (v := (.ref (co + 2 + 2 * cl))) rfl rfl (g := (mkF m 10 #[.val (.ref a1), .val (.int sl.toInt32), .val (.int cl.toInt32), .val (.long vv), .second] [(.int (0 : Int32)), (.ref (co + 1 + 2 * cl))])) rfl rfl (hb hby d6_10) _ kk_) ?_
  show OwnG p e below s _ _ _ (T1.setTop (mkF m 11 #[.val (.ref a1), .val (.int sl.toInt32), .val (.int cl.toInt32), .val (.long vv), .second] [(.ref (co + 2 + 2 * cl))]))
  refine own_by (fun t kk_ => XS.iloadN X1.here hx rfl (hb hby d6_11) rfl  kk_) ?_
  show OwnG p e below s _ _ _ (T1.setTop (mkF m 12 #[.val (.ref a1), .val (.int sl.toInt32), .val (.int cl.toInt32), .val (.long vv), .second] [(.int sl.toInt32), (.ref (co + 2 + 2 * cl))]))
  refine own_by (fun t kk_ => XS.sipush X1.here hx rfl (hb hby d6_12) kk_) ?_
  show OwnG p e below s _ _ _ (T1.setTop (mkF m 15 #[.val (.ref a1), .val (.int sl.toInt32), .val (.int cl.toInt32), .val (.long vv), .second] [(.int (8191 : Int32)), (.int sl.toInt32), (.ref (co + 2 + 2 * cl))]))
  refine own_by (fun t kk_ => XS.iand X1.here hx rfl (hb hby d6_15) rfl kk_) ?_
  show OwnG p e below s _ _ _ (T1.setTop (mkF m 16 #[.val (.ref a1), .val (.int sl.toInt32), .val (.int cl.toInt32), .val (.long vv), .second] [(.int (sl.toInt32 &&& (8191 : Int32))), (.ref (co + 2 + 2 * cl))]))
  rw [own_lowbits hsl]
  show OwnG p e below s _ _ _ (T1.setTop (mkF m 16 #[.val (.ref a1), .val (.int sl.toInt32), .val (.int cl.toInt32), .val (.long vv), .second] [(.int sl.toInt32), (.ref (co + 2 + 2 * cl))]))
  refine own_by (fun t kk_ => XS.lloadN X1.here hx rfl (hb hby d6_16) rfl  kk_) ?_
  show OwnG p e below s _ _ _ (T1.setTop (mkF m 17 #[.val (.ref a1), .val (.int sl.toInt32), .val (.int cl.toInt32), .val (.long vv), .second] [(.long vv), (.int sl.toInt32), (.ref (co + 2 + 2 * cl))]))
  obtain ⟨T2, h2, X2, e2, W2, A2, st2⟩ := own_stJ X1 hx hZ e1 (G.2.2.2.2 cl hcl).2 (j := sl.toInt32) (i := sl) (own_ix hsl (by decide)) (g := (mkF m 17 #[.val (.ref a1), .val (.int sl.toInt32), .val (.int cl.toInt32), .val (.long vv), .second] [(.long vv), (.int sl.toInt32), (.ref (co + 2 + 2 * cl))])) rfl rfl (hb hby d6_17)
  refine own_by (fun t kk_ => st2 _ kk_) ?_
  have G' := own_Gset G hcl hsl W2
  have N2 := Fr.snoc X2 N0 (show n0 ≤ co + 2 + 2 * cl by omega)
  show OwnG p e below s _ _ _ (T2.setTop (mkF m 18 #[.val (.ref a1), .val (.int sl.toInt32), .val (.int cl.toInt32), .val (.long vv), .second] []))
  exact own_outV X2 hx hret hlk (hb hby d6_18) (by show _ ∧ _; rw [e2]; exact ⟨rfl, N2, G'⟩) (by decide) (by decide)
theorem d7_0 : decode prog_261_method_4_code 0 = .ok (.aload_n 0, 1) := by decide +kernel
theorem d7_1 : decode prog_261_method_4_code 1 = .ok (.getfield 42, 3) := by decide +kernel
theorem d7_4 : decode prog_261_method_4_code 4 = .ok (.iload_n 2, 1) := by decide +kernel
theorem d7_5 : decode prog_261_method_4_code 5 = .ok (.aaload, 1) := by decide +kernel
theorem d7_6 : decode prog_261_method_4_code 6 = .ok (.iload_n 1, 1) := by decide +kernel
theorem d7_7 : decode prog_261_method_4_code 7 = .ok (.bipush 13, 2) := by decide +kernel
theorem d7_9 : decode prog_261_method_4_code 9 = .ok (.iushr, 1) := by decide +kernel
theorem d7_10 : decode prog_261_method_4_code 10 = .ok (.aaload, 1) := by decide +kernel
theorem d7_11 : decode prog_261_method_4_code 11 = .ok (.iload_n 1, 1) := by decide +kernel
theorem d7_12 : decode prog_261_method_4_code 12 = .ok (.sipush 8191, 3) := by decide +kernel
theorem d7_15 : decode prog_261_method_4_code 15 = .ok (.iand, 1) := by decide +kernel
theorem d7_16 : decode prog_261_method_4_code 16 = .ok (.laload, 1) := by decide +kernel
theorem d7_17 : decode prog_261_method_4_code 17 = .ok (.lreturn, 1) := by decide +kernel
theorem ef_7 (m : MethodId) (x0 : Addr) (x1 : Int32) (x2 : Int32) : entryFrame m #[(.ref x0), (.int x1), (.int x2)] 3 = mkF m 0 #[.val (.ref x0), .val (.int x1), .val (.int x2)] [] := by first | (simp [entryFrame, mkF, argsToLocals, Value.category]; done) | rfl
def Q7 (Z : State) (a1 co N cl sl : Nat) (F : Nat → Nat → Int64) (h0 : Heap) (n0 : Nat) (v : Option Value) (h : Heap) (L : List Loc) : Prop := v = some (.long (F cl sl)) ∧ Fr n0 L ∧ h = h0
set_option maxRecDepth 65536 in
set_option maxHeartbeats 40000000 in
theorem rm7 (l : Launch) (Z : State) (a0 : Array Value) (hw : ∀ d ∈ tables_1, d.before a0 Z = true) (ws : List Jvm.Cond) (a1 co N cl sl : Nat) (F : Nat → Nat → Int64) (h0 : Heap) (n0 : Nat) (Z0 : n0 ≤ h0.size) (G : own_G Z h0 a1 co N F) (hN4 : N ≤ 4) (hcl : cl < N) (hsl : sl < 1024) (gco : n0 ≤ co) :
    MetFree l (⟨"com/example/syncline/syncline/tpcc/LongColumns", "get", "(II)J"⟩ : MethodName) (head1 (Jvm.Cond.code (⟨"com/example/syncline/syncline/tpcc/LongColumns", "get", "(II)J"⟩ : MethodName) prog_261_method_4_code 3 (some .long) :: ws) ({ frames := 0, cells := 0, slots := 0, locals := 0 } : Room)) (fun aa_ U => aa_ = #[(.ref a1), (.int sl.toInt32), (.int cl.toInt32)] ∧ Z.Warmed39 U.vm ∧ U.heap = h0) (fun _ _ _ _ _ => True) (fun _ U o U' => ∃ v L, o = .returned v ∧ Q7 Z a1 co N cl sl F h0 n0 v U'.heap L ∧ FrameEnd U o U' L ({ frames := 0, cells := 0, slots := 0, locals := 0 } : Room).cells ({ frames := 0, cells := 0, slots := 0, locals := 0 } : Room).slots) := by
  refine own_met (Q := fun v h L => Q7 Z a1 co N cl sl F h0 n0 v h L) (plainFor_of_name pn_0) ?_
  intro p e s m below meth c s₁ hx hby hml hret hlk hown hnm hZ X0 e0
  have N0 := Fr.nil n0
  rw [ef_7 m a1 sl.toInt32 cl.toInt32]
  show OwnG p e below s _ _ _ (s₁.setTop (mkF m 0 #[.val (.ref a1), .val (.int sl.toInt32), .val (.int cl.toInt32)] []))
  refine own_by (fun t kk_ => XS.aloadN X0.here hx rfl (hb hby d7_0) rfl rfl kk_) ?_
  show OwnG p e below s _ _ _ (s₁.setTop (mkF m 1 #[.val (.ref a1), .val (.int sl.toInt32), .val (.int cl.toInt32)] [(.ref a1)]))
  obtain ⟨T1, X1, e1, st1⟩ := getF X0 hx hZ hown (host := "") (Or.inl (hw _ (List.mem_of_getElem? (i := 36) rfl))) Via.refl e0 G.2.1 (g := (mkF m 1 #[.val (.ref a1), .val (.int sl.toInt32), .val (.int cl.toInt32)] [(.ref a1)])) rfl rfl (hb hby d7_1)
  refine own_by (fun t kk_ => st1 _ kk_) ?_
  show OwnG p e below s _ _ _ (T1.setTop (mkF m 4 #[.val (.ref a1), .val (.int sl.toInt32), .val (.int cl.toInt32)] [(.ref co)]))
  refine own_by (fun t kk_ => XS.iloadN X1.here hx rfl (hb hby d7_4) rfl  kk_) ?_
  show OwnG p e below s _ _ _ (T1.setTop (mkF m 5 #[.val (.ref a1), .val (.int sl.toInt32), .val (.int cl.toInt32)] [(.int cl.toInt32), (.ref co)]))
  refine own_by (fun t kk_ => own_ldR X1 hx hZ e1 G.2.2.2.1 (j := cl.toInt32) (i := cl) (own_ix hcl (by omega)) (v := (.ref (co + 1 + 2 * cl))) rfl rfl (g := (mkF m 5 #[.val (.ref a1), .val (.int sl.toInt32), .val (.int cl.toInt32)] [(.int cl.toInt32), (.ref co)])) rfl rfl (hb hby d7_5) _ kk_) ?_
  show OwnG p e below s _ _ _ (T1.setTop (mkF m 6 #[.val (.ref a1), .val (.int sl.toInt32), .val (.int cl.toInt32)] [(.ref (co + 1 + 2 * cl))]))
  refine own_by (fun t kk_ => XS.iloadN X1.here hx rfl (hb hby d7_6) rfl  kk_) ?_
  show OwnG p e below s _ _ _ (T1.setTop (mkF m 7 #[.val (.ref a1), .val (.int sl.toInt32), .val (.int cl.toInt32)] [(.int sl.toInt32), (.ref (co + 1 + 2 * cl))]))
  refine own_by (fun t kk_ => XS.bipush X1.here hx rfl (hb hby d7_7) kk_) ?_
  show OwnG p e below s _ _ _ (T1.setTop (mkF m 9 #[.val (.ref a1), .val (.int sl.toInt32), .val (.int cl.toInt32)] [(.int (13 : Int32)), (.int sl.toInt32), (.ref (co + 1 + 2 * cl))]))
  refine own_by (fun t kk_ => XS.iushr X1.here hx rfl (hb hby d7_9) rfl kk_) ?_
  show OwnG p e below s _ _ _ (T1.setTop (mkF m 10 #[.val (.ref a1), .val (.int sl.toInt32), .val (.int cl.toInt32)] [(.int ((sl.toInt32.toUInt32 >>> ((13 : Int32) &&& 31).toUInt32).toInt32)), (.ref (co + 1 + 2 * cl))]))
  rw [own_page hsl]
  show OwnG p e below s _ _ _ (T1.setTop (mkF m 10 #[.val (.ref a1), .val (.int sl.toInt32), .val (.int cl.toInt32)] [(.int (0 : Int32)), (.ref (co + 1 + 2 * cl))]))
  refine own_by (fun t kk_ => own_ldR X1 hx hZ e1 (G.2.2.2.2 cl hcl).1 (j := (0 : Int32)) (i := 0) own_zix (v := (.ref (co + 2 + 2 * cl))) rfl rfl (g := (mkF m 10 #[.val (.ref a1), .val (.int sl.toInt32), .val (.int cl.toInt32)] [(.int (0 : Int32)), (.ref (co + 1 + 2 * cl))])) rfl rfl (hb hby d7_10) _ kk_) ?_
  show OwnG p e below s _ _ _ (T1.setTop (mkF m 11 #[.val (.ref a1), .val (.int sl.toInt32), .val (.int cl.toInt32)] [(.ref (co + 2 + 2 * cl))]))
  refine own_by (fun t kk_ => XS.iloadN X1.here hx rfl (hb hby d7_11) rfl  kk_) ?_
  show OwnG p e below s _ _ _ (T1.setTop (mkF m 12 #[.val (.ref a1), .val (.int sl.toInt32), .val (.int cl.toInt32)] [(.int sl.toInt32), (.ref (co + 2 + 2 * cl))]))
  refine own_by (fun t kk_ => XS.sipush X1.here hx rfl (hb hby d7_12) kk_) ?_
  show OwnG p e below s _ _ _ (T1.setTop (mkF m 15 #[.val (.ref a1), .val (.int sl.toInt32), .val (.int cl.toInt32)] [(.int (8191 : Int32)), (.int sl.toInt32), (.ref (co + 2 + 2 * cl))]))
  refine own_by (fun t kk_ => XS.iand X1.here hx rfl (hb hby d7_15) rfl kk_) ?_
  show OwnG p e below s _ _ _ (T1.setTop (mkF m 16 #[.val (.ref a1), .val (.int sl.toInt32), .val (.int cl.toInt32)] [(.int (sl.toInt32 &&& (8191 : Int32))), (.ref (co + 2 + 2 * cl))]))
  rw [own_lowbits hsl]
  show OwnG p e below s _ _ _ (T1.setTop (mkF m 16 #[.val (.ref a1), .val (.int sl.toInt32), .val (.int cl.toInt32)] [(.int sl.toInt32), (.ref (co + 2 + 2 * cl))]))
  refine own_by (fun t kk_ => own_ldJ X1 hx hZ e1 (G.2.2.2.2 cl hcl).2 (j := sl.toInt32) (i := sl) (own_ix hsl (by decide)) (v := (.long (F cl sl))) rfl (g := (mkF m 16 #[.val (.ref a1), .val (.int sl.toInt32), .val (.int cl.toInt32)] [(.int sl.toInt32), (.ref (co + 2 + 2 * cl))])) rfl rfl (hb hby d7_16) _ kk_) ?_
  show OwnG p e below s _ _ _ (T1.setTop (mkF m 17 #[.val (.ref a1), .val (.int sl.toInt32), .val (.int cl.toInt32)] [(.long (F cl sl))]))
  exact own_outL X1 hx hret hlk (hb hby d7_17) (⟨rfl, N0, e1⟩) (by decide) (by decide)
theorem own_inj {x y : Nat} (hx : x < 2 ^ 31) (hy : y < 2 ^ 31) (h : x.toInt32 = y.toInt32) : x = y := by
  have := congrArg Int32.toInt h
  rw [own_ofNat _ hx, own_ofNat _ hy] at this
  omega
theorem own_nzN {x : Nat} (h : 0 < x) (hx : x < 2 ^ 31) : x.toInt32 ≠ 0 := fun q => by
  have := congrArg Int32.toInt q
  rw [own_ofNat _ hx, own_z] at this
  omega
theorem pn_1 : plainName "com/example/syncline/syncline/tpcc/LongColumnsSetPinLaw" = true := by first | (simp [plainName, overriddenIn]; done) | decide +kernel
theorem pd_3 : parseMethodDescriptor "(IIJ)V" = some ⟨[.int, .int, .long], none⟩ := by decide +kernel
theorem pd_4 : parseMethodDescriptor "(II)J" = some ⟨[.int, .int], some .long⟩ := by decide +kernel
theorem ef_0 (m : MethodId) (x0 : Int32) (x1 : Int32) (x2 : Int32) (x3 : Int64) (x4 : Int64) : entryFrame m #[(.int x0), (.int x1), (.int x2), (.long x3), (.long x4)] maxLocals = mkF m 0 #[.val (.int x0), .val (.int x1), .val (.int x2), .val (.long x3), .second, .val (.long x4), .second, .unset, .unset, .unset, .unset, .unset, .unset, .unset, .unset, .unset] [] := by first | (simp [entryFrame, mkF, argsToLocals, Value.category, maxLocals]; done) | rfl
def Q0 (Z : State) (a b c0 : Int32) (v1 w1 : Int64) (h0 : Heap) (n0 : Nat) (v : Option Value) (h : Heap) (L : List Loc) : Prop := v = some (.int (1 : Int32)) ∧ Fr n0 L
set_option maxRecDepth 65536 in
set_option maxHeartbeats 40000000 in
theorem rm0 (l : Launch) (Z : State) (a0 : Array Value) (hw : ∀ d ∈ tables_1, d.before a0 Z = true) (ws : List Jvm.Cond) (a b c0 : Int32) (v1 w1 : Int64) (h0 : Heap) (n0 : Nat) (Z0 : n0 ≤ h0.size) :
    MetFree l x (head1 (Jvm.Cond.code x code maxLocals ret :: ws) room_1) (fun aa_ U => aa_ = #[(.int a), (.int b), (.int c0), (.long v1), (.long w1)] ∧ Z.Warmed39 U.vm ∧ U.heap = h0) (fun _ _ _ _ _ => True) (fun _ U o U' => ∃ v L, o = .returned v ∧ Q0 Z a b c0 v1 w1 h0 n0 v U'.heap L ∧ FrameEnd U o U' L room_1.cells room_1.slots) := by
  refine own_met (Q := fun v h L => Q0 Z a b c0 v1 w1 h0 n0 v h L) (plainFor_of_name pn_1) ?_
  intro p e s m below meth c s₁ hx hby hml hret hlk hown hnm hZ X0 e0
  have N0 := Fr.nil n0
  rw [ef_0 m a b c0 v1 w1]
  show OwnG p e below s _ _ _ (s₁.setTop (mkF m 0 #[.val (.int a), .val (.int b), .val (.int c0), .val (.long v1), .second, .val (.long w1), .second, .unset, .unset, .unset, .unset, .unset, .unset, .unset, .unset, .unset] []))
  refine own_by (fun t kk_ => XS.iconst X0.here hx rfl (hb hby at_0) kk_) ?_
  show OwnG p e below s _ _ _ (s₁.setTop (mkF m 1 #[.val (.int a), .val (.int b), .val (.int c0), .val (.long v1), .second, .val (.long w1), .second, .unset, .unset, .unset, .unset, .unset, .unset, .unset, .unset, .unset] [(.int (1 : Int32))]))
  refine own_by (fun t kk_ => XS.iloadN X0.here hx rfl (hb hby at_1) rfl  kk_) ?_
  show OwnG p e below s _ _ _ (s₁.setTop (mkF m 2 #[.val (.int a), .val (.int b), .val (.int c0), .val (.long v1), .second, .val (.long w1), .second, .unset, .unset, .unset, .unset, .unset, .unset, .unset, .unset, .unset] [(.int c0), (.int (1 : Int32))]))
  refine own_by (fun t kk_ => XS.iconst X0.here hx rfl (hb hby at_2) kk_) ?_
  show OwnG p e below s _ _ _ (s₁.setTop (mkF m 3 #[.val (.int a), .val (.int b), .val (.int c0), .val (.long v1), .second, .val (.long w1), .second, .unset, .unset, .unset, .unset, .unset, .unset, .unset, .unset, .unset] [(.int (3 : Int32)), (.int c0), (.int (1 : Int32))]))
  refine own_by (fun t kk_ => XS.iand X0.here hx rfl (hb hby at_3) rfl kk_) ?_
  show OwnG p e below s _ _ _ (s₁.setTop (mkF m 4 #[.val (.int a), .val (.int b), .val (.int c0), .val (.long v1), .second, .val (.long w1), .second, .unset, .unset, .unset, .unset, .unset, .unset, .unset, .unset, .unset] [(.int (c0 &&& (3 : Int32))), (.int (1 : Int32))]))
  refine own_by (fun t kk_ => XS.iadd X0.here hx rfl (hb hby at_4) rfl kk_) ?_
  show OwnG p e below s _ _ _ (s₁.setTop (mkF m 5 #[.val (.int a), .val (.int b), .val (.int c0), .val (.long v1), .second, .val (.long w1), .second, .unset, .unset, .unset, .unset, .unset, .unset, .unset, .unset, .unset] [(.int ((1 : Int32) + (c0 &&& (3 : Int32))))]))
  obtain ⟨c3, hc3, hce⟩ := own_msk c0 3 2 (by decide) (by decide)
  rw [hce, show (1 : Int32) + c3.toInt32 = (1 : Nat).toInt32 + c3.toInt32 from rfl, own_addN]
  generalize hN0 : 1 + c3 = N
  have hN1 : 0 < N := by omega
  have hN4 : N ≤ 4 := by omega
  show OwnG p e below s _ _ _ (s₁.setTop (mkF m 5 #[.val (.int a), .val (.int b), .val (.int c0), .val (.long v1), .second, .val (.long w1), .second, .unset, .unset, .unset, .unset, .unset, .unset, .unset, .unset, .unset] [(.int N.toInt32)]))
  refine own_by (fun t kk_ => XS.istore X0.here hx rfl (hb hby at_5) rfl (l' := #[.val (.int a), .val (.int b), .val (.int c0), .val (.long v1), .second, .val (.long w1), .second, .val (.int N.toInt32), .unset, .unset, .unset, .unset, .unset, .unset, .unset, .unset]) rfl kk_) ?_
  show OwnG p e below s _ _ _ (s₁.setTop (mkF m 7 #[.val (.int a), .val (.int b), .val (.int c0), .val (.long v1), .second, .val (.long w1), .second, .val (.int N.toInt32), .unset, .unset, .unset, .unset, .unset, .unset, .unset, .unset] []))
  refine own_by (fun t kk_ => XS.iloadN X0.here hx rfl (hb hby at_7) rfl  kk_) ?_
  show OwnG p e below s _ _ _ (s₁.setTop (mkF m 8 #[.val (.int a), .val (.int b), .val (.int c0), .val (.long v1), .second, .val (.long w1), .second, .val (.int N.toInt32), .unset, .unset, .unset, .unset, .unset, .unset, .unset, .unset] [(.int c0)]))
  refine own_by (fun t kk_ => XS.iconst X0.here hx rfl (hb hby at_8) kk_) ?_
  show OwnG p e below s _ _ _ (s₁.setTop (mkF m 9 #[.val (.int a), .val (.int b), .val (.int c0), .val (.long v1), .second, .val (.long w1), .second, .val (.int N.toInt32), .unset, .unset, .unset, .unset, .unset, .unset, .unset, .unset] [(.int (2 : Int32)), (.int c0)]))
  refine own_by (fun t kk_ => XS.iushr X0.here hx rfl (hb hby at_9) rfl kk_) ?_
  show OwnG p e below s _ _ _ (s₁.setTop (mkF m 10 #[.val (.int a), .val (.int b), .val (.int c0), .val (.long v1), .second, .val (.long w1), .second, .val (.int N.toInt32), .unset, .unset, .unset, .unset, .unset, .unset, .unset, .unset] [(.int ((c0.toUInt32 >>> ((2 : Int32) &&& 31).toUInt32).toInt32))]))
  refine own_by (fun t kk_ => XS.iconst X0.here hx rfl (hb hby at_10) kk_) ?_
  show OwnG p e below s _ _ _ (s₁.setTop (mkF m 11 #[.val (.int a), .val (.int b), .val (.int c0), .val (.long v1), .second, .val (.long w1), .second, .val (.int N.toInt32), .unset, .unset, .unset, .unset, .unset, .unset, .unset, .unset] [(.int (3 : Int32)), (.int ((c0.toUInt32 >>> ((2 : Int32) &&& 31).toUInt32).toInt32))]))
  refine own_by (fun t kk_ => XS.iand X0.here hx rfl (hb hby at_11) rfl kk_) ?_
  show OwnG p e below s _ _ _ (s₁.setTop (mkF m 12 #[.val (.int a), .val (.int b), .val (.int c0), .val (.long v1), .second, .val (.long w1), .second, .val (.int N.toInt32), .unset, .unset, .unset, .unset, .unset, .unset, .unset, .unset] [(.int (((c0.toUInt32 >>> ((2 : Int32) &&& 31).toUInt32).toInt32) &&& (3 : Int32)))]))
  obtain ⟨cl', hcl', hecl⟩ := own_msk ((c0.toUInt32 >>> ((2 : Int32) &&& 31).toUInt32).toInt32) 3 2 (by decide) (by decide)
  rw [hecl]
  show OwnG p e below s _ _ _ (s₁.setTop (mkF m 12 #[.val (.int a), .val (.int b), .val (.int c0), .val (.long v1), .second, .val (.long w1), .second, .val (.int N.toInt32), .unset, .unset, .unset, .unset, .unset, .unset, .unset, .unset] [(.int cl'.toInt32)]))
  refine own_by (fun t kk_ => XS.iload X0.here hx rfl (hb hby at_12) rfl  kk_) ?_
  show OwnG p e below s _ _ _ (s₁.setTop (mkF m 14 #[.val (.int a), .val (.int b), .val (.int c0), .val (.long v1), .second, .val (.long w1), .second, .val (.int N.toInt32), .unset, .unset, .unset, .unset, .unset, .unset, .unset, .unset] [(.int N.toInt32), (.int cl'.toInt32)]))
  refine own_by (fun t kk_ => XS.irem X0.here hx rfl (hb hby at_14) rfl (own_nzN hN1 (by omega)) kk_) ?_
  show OwnG p e below s _ _ _ (s₁.setTop (mkF m 15 #[.val (.int a), .val (.int b), .val (.int c0), .val (.long v1), .second, .val (.long w1), .second, .val (.int N.toInt32), .unset, .unset, .unset, .unset, .unset, .unset, .unset, .unset] [(.int (cl'.toInt32 - (cl'.toInt32 / N.toInt32) * N.toInt32))]))
  rw [own_remN cl' N (by omega) hN1 (by omega)]
  generalize hcl0 : cl' % N = cl
  have hcl : cl < N := by rw [← hcl0]; exact Nat.mod_lt _ hN1
  show OwnG p e below s _ _ _ (s₁.setTop (mkF m 15 #[.val (.int a), .val (.int b), .val (.int c0), .val (.long v1), .second, .val (.long w1), .second, .val (.int N.toInt32), .unset, .unset, .unset, .unset, .unset, .unset, .unset, .unset] [(.int cl.toInt32)]))
  refine own_by (fun t kk_ => XS.istore X0.here hx rfl (hb hby at_15) rfl (l' := #[.val (.int a), .val (.int b), .val (.int c0), .val (.long v1), .second, .val (.long w1), .second, .val (.int N.toInt32), .val (.int cl.toInt32), .unset, .unset, .unset, .unset, .unset, .unset, .unset]) rfl kk_) ?_
  show OwnG p e below s _ _ _ (s₁.setTop (mkF m 17 #[.val (.int a), .val (.int b), .val (.int c0), .val (.long v1), .second, .val (.long w1), .second, .val (.int N.toInt32), .val (.int cl.toInt32), .unset, .unset, .unset, .unset, .unset, .unset, .unset] []))
  refine own_by (fun t kk_ => XS.iloadN X0.here hx rfl (hb hby at_17) rfl  kk_) ?_
  show OwnG p e below s _ _ _ (s₁.setTop (mkF m 18 #[.val (.int a), .val (.int b), .val (.int c0), .val (.long v1), .second, .val (.long w1), .second, .val (.int N.toInt32), .val (.int cl.toInt32), .unset, .unset, .unset, .unset, .unset, .unset, .unset] [(.int c0)]))
  refine own_by (fun t kk_ => XS.iconst X0.here hx rfl (hb hby at_18) kk_) ?_
  show OwnG p e below s _ _ _ (s₁.setTop (mkF m 19 #[.val (.int a), .val (.int b), .val (.int c0), .val (.long v1), .second, .val (.long w1), .second, .val (.int N.toInt32), .val (.int cl.toInt32), .unset, .unset, .unset, .unset, .unset, .unset, .unset] [(.int (4 : Int32)), (.int c0)]))
  refine own_by (fun t kk_ => XS.iushr X0.here hx rfl (hb hby at_19) rfl kk_) ?_
  show OwnG p e below s _ _ _ (s₁.setTop (mkF m 20 #[.val (.int a), .val (.int b), .val (.int c0), .val (.long v1), .second, .val (.long w1), .second, .val (.int N.toInt32), .val (.int cl.toInt32), .unset, .unset, .unset, .unset, .unset, .unset, .unset] [(.int ((c0.toUInt32 >>> ((4 : Int32) &&& 31).toUInt32).toInt32))]))
  refine own_by (fun t kk_ => XS.iconst X0.here hx rfl (hb hby at_20) kk_) ?_
  show OwnG p e below s _ _ _ (s₁.setTop (mkF m 21 #[.val (.int a), .val (.int b), .val (.int c0), .val (.long v1), .second, .val (.long w1), .second, .val (.int N.toInt32), .val (.int cl.toInt32), .unset, .unset, .unset, .unset, .unset, .unset, .unset] [(.int (3 : Int32)), (.int ((c0.toUInt32 >>> ((4 : Int32) &&& 31).toUInt32).toInt32))]))
  refine own_by (fun t kk_ => XS.iand X0.here hx rfl (hb hby at_21) rfl kk_) ?_
  show OwnG p e below s _ _ _ (s₁.setTop (mkF m 22 #[.val (.int a), .val (.int b), .val (.int c0), .val (.long v1), .second, .val (.long w1), .second, .val (.int N.toInt32), .val (.int cl.toInt32), .unset, .unset, .unset, .unset, .unset, .unset, .unset] [(.int (((c0.toUInt32 >>> ((4 : Int32) &&& 31).toUInt32).toInt32) &&& (3 : Int32)))]))
  obtain ⟨c2', hc2', hec2⟩ := own_msk ((c0.toUInt32 >>> ((4 : Int32) &&& 31).toUInt32).toInt32) 3 2 (by decide) (by decide)
  rw [hec2]
  show OwnG p e below s _ _ _ (s₁.setTop (mkF m 22 #[.val (.int a), .val (.int b), .val (.int c0), .val (.long v1), .second, .val (.long w1), .second, .val (.int N.toInt32), .val (.int cl.toInt32), .unset, .unset, .unset, .unset, .unset, .unset, .unset] [(.int c2'.toInt32)]))
  refine own_by (fun t kk_ => XS.iload X0.here hx rfl (hb hby at_22) rfl  kk_) ?_
  show OwnG p e below s _ _ _ (s₁.setTop (mkF m 24 #[.val (.int a), .val (.int b), .val (.int c0), .val (.long v1), .second, .val (.long w1), .second, .val (.int N.toInt32), .val (.int cl.toInt32), .unset, .unset, .unset, .unset, .unset, .unset, .unset] [(.int N.toInt32), (.int c2'.toInt32)]))
  refine own_by (fun t kk_ => XS.irem X0.here hx rfl (hb hby at_24) rfl (own_nzN hN1 (by omega)) kk_) ?_
  show OwnG p e below s _ _ _ (s₁.setTop (mkF m 25 #[.val (.int a), .val (.int b), .val (.int c0), .val (.long v1), .second, .val (.long w1), .second, .val (.int N.toInt32), .val (.int cl.toInt32), .unset, .unset, .unset, .unset, .unset, .unset, .unset] [(.int (c2'.toInt32 - (c2'.toInt32 / N.toInt32) * N.toInt32))]))
  rw [own_remN c2' N (by omega) hN1 (by omega)]
  generalize hc20 : c2' % N = c2
  have hc2 : c2 < N := by rw [← hc20]; exact Nat.mod_lt _ hN1
  show OwnG p e below s _ _ _ (s₁.setTop (mkF m 25 #[.val (.int a), .val (.int b), .val (.int c0), .val (.long v1), .second, .val (.long w1), .second, .val (.int N.toInt32), .val (.int cl.toInt32), .unset, .unset, .unset, .unset, .unset, .unset, .unset] [(.int c2.toInt32)]))
  refine own_by (fun t kk_ => XS.istore X0.here hx rfl (hb hby at_25) rfl (l' := #[.val (.int a), .val (.int b), .val (.int c0), .val (.long v1), .second, .val (.long w1), .second, .val (.int N.toInt32), .val (.int cl.toInt32), .val (.int c2.toInt32), .unset, .unset, .unset, .unset, .unset, .unset]) rfl kk_) ?_
  show OwnG p e below s _ _ _ (s₁.setTop (mkF m 27 #[.val (.int a), .val (.int b), .val (.int c0), .val (.long v1), .second, .val (.long w1), .second, .val (.int N.toInt32), .val (.int cl.toInt32), .val (.int c2.toInt32), .unset, .unset, .unset, .unset, .unset, .unset] []))
  refine own_by (fun t kk_ => XS.iloadN X0.here hx rfl (hb hby at_27) rfl  kk_) ?_
  show OwnG p e below s _ _ _ (s₁.setTop (mkF m 28 #[.val (.int a), .val (.int b), .val (.int c0), .val (.long v1), .second, .val (.long w1), .second, .val (.int N.toInt32), .val (.int cl.toInt32), .val (.int c2.toInt32), .unset, .unset, .unset, .unset, .unset, .unset] [(.int a)]))
  refine own_by (fun t kk_ => XS.sipush X0.here hx rfl (hb hby at_28) kk_) ?_
  show OwnG p e below s _ _ _ (s₁.setTop (mkF m 31 #[.val (.int a), .val (.int b), .val (.int c0), .val (.long v1), .second, .val (.long w1), .second, .val (.int N.toInt32), .val (.int cl.toInt32), .val (.int c2.toInt32), .unset, .unset, .unset, .unset, .unset, .unset] [(.int (1023 : Int32)), (.int a)]))
  refine own_by (fun t kk_ => XS.iand X0.here hx rfl (hb hby at_31) rfl kk_) ?_
  show OwnG p e below s _ _ _ (s₁.setTop (mkF m 32 #[.val (.int a), .val (.int b), .val (.int c0), .val (.long v1), .second, .val (.long w1), .second, .val (.int N.toInt32), .val (.int cl.toInt32), .val (.int c2.toInt32), .unset, .unset, .unset, .unset, .unset, .unset] [(.int (a &&& (1023 : Int32)))]))
  obtain ⟨sl, hsl, hse⟩ := own_msk a 1023 10 (by decide) (by decide)
  rw [hse]
  show OwnG p e below s _ _ _ (s₁.setTop (mkF m 32 #[.val (.int a), .val (.int b), .val (.int c0), .val (.long v1), .second, .val (.long w1), .second, .val (.int N.toInt32), .val (.int cl.toInt32), .val (.int c2.toInt32), .unset, .unset, .unset, .unset, .unset, .unset] [(.int sl.toInt32)]))
  refine own_by (fun t kk_ => XS.istore X0.here hx rfl (hb hby at_32) rfl (l' := #[.val (.int a), .val (.int b), .val (.int c0), .val (.long v1), .second, .val (.long w1), .second, .val (.int N.toInt32), .val (.int cl.toInt32), .val (.int c2.toInt32), .val (.int sl.toInt32), .unset, .unset, .unset, .unset, .unset]) rfl kk_) ?_
  show OwnG p e below s _ _ _ (s₁.setTop (mkF m 34 #[.val (.int a), .val (.int b), .val (.int c0), .val (.long v1), .second, .val (.long w1), .second, .val (.int N.toInt32), .val (.int cl.toInt32), .val (.int c2.toInt32), .val (.int sl.toInt32), .unset, .unset, .unset, .unset, .unset] []))
  refine own_by (fun t kk_ => XS.iloadN X0.here hx rfl (hb hby at_34) rfl  kk_) ?_
  show OwnG p e below s _ _ _ (s₁.setTop (mkF m 35 #[.val (.int a), .val (.int b), .val (.int c0), .val (.long v1), .second, .val (.long w1), .second, .val (.int N.toInt32), .val (.int cl.toInt32), .val (.int c2.toInt32), .val (.int sl.toInt32), .unset, .unset, .unset, .unset, .unset] [(.int c0)]))
  refine own_by (fun t kk_ => XS.bipush X0.here hx rfl (hb hby at_35) kk_) ?_
  show OwnG p e below s _ _ _ (s₁.setTop (mkF m 37 #[.val (.int a), .val (.int b), .val (.int c0), .val (.long v1), .second, .val (.long w1), .second, .val (.int N.toInt32), .val (.int cl.toInt32), .val (.int c2.toInt32), .val (.int sl.toInt32), .unset, .unset, .unset, .unset, .unset] [(.int (6 : Int32)), (.int c0)]))
  refine own_by (fun t kk_ => XS.iushr X0.here hx rfl (hb hby at_37) rfl kk_) ?_
  show OwnG p e below s _ _ _ (s₁.setTop (mkF m 38 #[.val (.int a), .val (.int b), .val (.int c0), .val (.long v1), .second, .val (.long w1), .second, .val (.int N.toInt32), .val (.int cl.toInt32), .val (.int c2.toInt32), .val (.int sl.toInt32), .unset, .unset, .unset, .unset, .unset] [(.int ((c0.toUInt32 >>> ((6 : Int32) &&& 31).toUInt32).toInt32))]))
  refine own_by (fun t kk_ => XS.iconst X0.here hx rfl (hb hby at_38) kk_) ?_
  show OwnG p e below s _ _ _ (s₁.setTop (mkF m 39 #[.val (.int a), .val (.int b), .val (.int c0), .val (.long v1), .second, .val (.long w1), .second, .val (.int N.toInt32), .val (.int cl.toInt32), .val (.int c2.toInt32), .val (.int sl.toInt32), .unset, .unset, .unset, .unset, .unset] [(.int (1 : Int32)), (.int ((c0.toUInt32 >>> ((6 : Int32) &&& 31).toUInt32).toInt32))]))
  refine own_by (fun t kk_ => XS.iand X0.here hx rfl (hb hby at_39) rfl kk_) ?_
  show OwnG p e below s _ _ _ (s₁.setTop (mkF m 40 #[.val (.int a), .val (.int b), .val (.int c0), .val (.long v1), .second, .val (.long w1), .second, .val (.int N.toInt32), .val (.int cl.toInt32), .val (.int c2.toInt32), .val (.int sl.toInt32), .unset, .unset, .unset, .unset, .unset] [(.int (((c0.toUInt32 >>> ((6 : Int32) &&& 31).toUInt32).toInt32) &&& (1 : Int32)))]))
  by_cases hb40_1 : (((c0.toUInt32 >>> ((6 : Int32) &&& 31).toUInt32).toInt32) &&& (1 : Int32)) = (0 : Int32)
  · refine own_by (fun t kk_ => XS.ifYes X0.here hx rfl (pc0 := 40) (pc' := 48) rfl (hb hby at_40) rfl ((if0 _ _).trans (teq hb40_1).1) (by decide) (by decide) kk_) ?_
    show OwnG p e below s _ _ _ (s₁.setTop (mkF m 48 #[.val (.int a), .val (.int b), .val (.int c0), .val (.long v1), .second, .val (.long w1), .second, .val (.int N.toInt32), .val (.int cl.toInt32), .val (.int c2.toInt32), .val (.int sl.toInt32), .unset, .unset, .unset, .unset, .unset] []))
    refine own_by (fun t kk_ => XS.iloadN X0.here hx rfl (hb hby at_48) rfl  kk_) ?_
    show OwnG p e below s _ _ _ (s₁.setTop (mkF m 49 #[.val (.int a), .val (.int b), .val (.int c0), .val (.long v1), .second, .val (.long w1), .second, .val (.int N.toInt32), .val (.int cl.toInt32), .val (.int c2.toInt32), .val (.int sl.toInt32), .unset, .unset, .unset, .unset, .unset] [(.int b)]))
    refine own_by (fun t kk_ => XS.sipush X0.here hx rfl (hb hby at_49) kk_) ?_
    show OwnG p e below s _ _ _ (s₁.setTop (mkF m 52 #[.val (.int a), .val (.int b), .val (.int c0), .val (.long v1), .second, .val (.long w1), .second, .val (.int N.toInt32), .val (.int cl.toInt32), .val (.int c2.toInt32), .val (.int sl.toInt32), .unset, .unset, .unset, .unset, .unset] [(.int (1023 : Int32)), (.int b)]))
    refine own_by (fun t kk_ => XS.iand X0.here hx rfl (hb hby at_52) rfl kk_) ?_
    show OwnG p e below s _ _ _ (s₁.setTop (mkF m 53 #[.val (.int a), .val (.int b), .val (.int c0), .val (.long v1), .second, .val (.long w1), .second, .val (.int N.toInt32), .val (.int cl.toInt32), .val (.int c2.toInt32), .val (.int sl.toInt32), .unset, .unset, .unset, .unset, .unset] [(.int (b &&& (1023 : Int32)))]))
    obtain ⟨s2, hs2, hs2e⟩ := own_msk b 1023 10 (by decide) (by decide)
    rw [hs2e]
    show OwnG p e below s _ _ _ (s₁.setTop (mkF m 53 #[.val (.int a), .val (.int b), .val (.int c0), .val (.long v1), .second, .val (.long w1), .second, .val (.int N.toInt32), .val (.int cl.toInt32), .val (.int c2.toInt32), .val (.int sl.toInt32), .unset, .unset, .unset, .unset, .unset] [(.int s2.toInt32)]))
    refine own_by (fun t kk_ => XS.istore X0.here hx rfl (hb hby at_53) rfl (l' := #[.val (.int a), .val (.int b), .val (.int c0), .val (.long v1), .second, .val (.long w1), .second, .val (.int N.toInt32), .val (.int cl.toInt32), .val (.int c2.toInt32), .val (.int sl.toInt32), .val (.int s2.toInt32), .unset, .unset, .unset, .unset]) rfl kk_) ?_
    show OwnG p e below s _ _ _ (s₁.setTop (mkF m 55 #[.val (.int a), .val (.int b), .val (.int c0), .val (.long v1), .second, .val (.long w1), .second, .val (.int N.toInt32), .val (.int cl.toInt32), .val (.int c2.toInt32), .val (.int sl.toInt32), .val (.int s2.toInt32), .unset, .unset, .unset, .unset] []))
    obtain ⟨T2, h2, X2, e2, E2, A2, D2, -, st2⟩ := newO X0 hx hZ hown (hw _ (List.mem_of_getElem? (i := 0) rfl)) (hw _ (List.mem_of_getElem? (i := 1) rfl)) (hw _ (List.mem_of_getElem? (i := 2) rfl)) e0 (g := (mkF m 55 #[.val (.int a), .val (.int b), .val (.int c0), .val (.long v1), .second, .val (.long w1), .second, .val (.int N.toInt32), .val (.int cl.toInt32), .val (.int c2.toInt32), .val (.int sl.toInt32), .val (.int s2.toInt32), .unset, .unset, .unset, .unset] [])) rfl (hb hby at_55) (by decide) (by decide)
    obtain ⟨ob, g2⟩ : ∃ z, z = h0.size := ⟨_, rfl⟩
    rw [← g2] at A2 D2 st2
    have gg_ob : n0 ≤ ob := by rw [g2]; exact Z0
    have sz2 : n0 ≤ h2.size := Nat.le_trans Z0 E2.1
    refine own_by (fun t kk_ => st2 _ kk_) ?_
    have f3 : Fld Z h2 ob "com/example/syncline/syncline/tpcc/LongColumns" "columnCount" "I" (.int (0 : Int32)) := D2 (Or.inr (hw _ (List.mem_of_getElem? (i := 10) rfl))) (ty := .int) (by decide)
    have f4 : Fld Z h2 ob "com/example/syncline/syncline/tpcc/LongColumns" "slots" "I" (.int (0 : Int32)) := D2 (Or.inl (hw _ (List.mem_of_getElem? (i := 16) rfl))) (ty := .int) (by decide)
    have f5 : Fld Z h2 ob "com/example/syncline/syncline/tpcc/LongColumns" "keys" "[[J" .null := D2 (Or.inl (hw _ (List.mem_of_getElem? (i := 28) rfl))) (ty := (.array (.array .long))) (by decide)
    have f6 : Fld Z h2 ob "com/example/syncline/syncline/tpcc/LongColumns" "used" "[[Z" .null := D2 (Or.inl (hw _ (List.mem_of_getElem? (i := 33) rfl))) (ty := (.array (.array .boolean))) (by decide)
    have f7 : Fld Z h2 ob "com/example/syncline/syncline/tpcc/LongColumns" "columns" "[[[J" .null := D2 (Or.inl (hw _ (List.mem_of_getElem? (i := 37) rfl))) (ty := (.array (.array (.array .long)))) (by decide)
    show OwnG p e below s _ _ _ (T2.setTop (mkF m 58 #[.val (.int a), .val (.int b), .val (.int c0), .val (.long v1), .second, .val (.long w1), .second, .val (.int N.toInt32), .val (.int cl.toInt32), .val (.int c2.toInt32), .val (.int sl.toInt32), .val (.int s2.toInt32), .unset, .unset, .unset, .unset] [(.ref ob)]))
    refine own_by (fun t kk_ => XS.dup X2.here hx rfl (hb hby at_58) rfl rfl kk_) ?_
    show OwnG p e below s _ _ _ (T2.setTop (mkF m 59 #[.val (.int a), .val (.int b), .val (.int c0), .val (.long v1), .second, .val (.long w1), .second, .val (.int N.toInt32), .val (.int cl.toInt32), .val (.int c2.toInt32), .val (.int sl.toInt32), .val (.int s2.toInt32), .unset, .unset, .unset, .unset] [(.ref ob), (.ref ob)]))
    refine own_by (fun t kk_ => XS.iload X2.here hx rfl (hb hby at_59) rfl  kk_) ?_
    show OwnG p e below s _ _ _ (T2.setTop (mkF m 61 #[.val (.int a), .val (.int b), .val (.int c0), .val (.long v1), .second, .val (.long w1), .second, .val (.int N.toInt32), .val (.int cl.toInt32), .val (.int c2.toInt32), .val (.int sl.toInt32), .val (.int s2.toInt32), .unset, .unset, .unset, .unset] [(.int N.toInt32), (.ref ob), (.ref ob)]))
    obtain ⟨_, _, ⟨T8, L8, k8, n8⟩, -, X8, ⟨Lc8, hQ8, l8, y8, z8⟩, st8⟩ := X2.specialBack hx (y := (⟨"com/example/syncline/syncline/tpcc/LongColumns", "<init>", "(I)V"⟩ : MethodName)) rfl hown (mvT hZ (hw _ (List.mem_of_getElem? (i := 3) rfl))) (mvT hZ (hw _ (List.mem_of_getElem? (i := 4) rfl))) (mvT hZ (hw _ (List.mem_of_getElem? (i := 5) rfl))) (by decide) (backOf (W := 1) (rm1 l Z a0 hw [] ob N h2 n0 sz2 A2 f3 f4 f5 f6 f7 gg_ob hN4) hZ (hw _ (List.mem_of_getElem? (i := 5) rfl)) (hw _ (List.mem_of_getElem? (i := 2) rfl)) (by decide) (by decide)) (g := (mkF m 61 #[.val (.int a), .val (.int b), .val (.int c0), .val (.long v1), .second, .val (.long w1), .second, .val (.int N.toInt32), .val (.int cl.toInt32), .val (.int c2.toInt32), .val (.int sl.toInt32), .val (.int s2.toInt32), .unset, .unset, .unset, .unset] [(.int N.toInt32), (.ref ob), (.ref ob)])) rfl (by rw [hml]; rfl) (Steps.refl _) (a := ob) (argsL := [(.int N.toInt32)]) (rest := [(.ref ob)]) (lenOf pd_2 rfl) rfl (by show 2 * 0 + _ ≤ _; exact Nat.le_of_eq rfl) (hb hby at_61) (fun _ _ => ⟨rfl, e2, (by decide : 0 + 1 + 13 ≤ _), (by decide : 0 + 6 + 6154 ≤ _)⟩)
    dsimp only [Pt.U, Pt.locs, Pt.cells, Pt.slots] at X8 l8 y8 z8 st8 hQ8
    subst l8 y8 z8
    refine own_by (fun t kk_ => st8.trans kk_) ?_
    obtain ⟨rfl, N8q, co, gco, G8⟩ := hQ8
    have N8 := Fr.app N0 N8q
    have sz8 : n0 ≤ T8.heap.size := Nat.le_trans gco (Nat.le_of_lt G8.2.2.2.1.lt)
    show OwnG p e below s _ _ _ (T8.setTop (mkF m 64 #[.val (.int a), .val (.int b), .val (.int c0), .val (.long v1), .second, .val (.long w1), .second, .val (.int N.toInt32), .val (.int cl.toInt32), .val (.int c2.toInt32), .val (.int sl.toInt32), .val (.int s2.toInt32), .unset, .unset, .unset, .unset] [(.ref ob)]))
    refine own_by (fun t kk_ => XS.astore X8.here hx rfl (hb hby at_64) rfl rfl (l' := #[.val (.int a), .val (.int b), .val (.int c0), .val (.long v1), .second, .val (.long w1), .second, .val (.int N.toInt32), .val (.int cl.toInt32), .val (.int c2.toInt32), .val (.int sl.toInt32), .val (.int s2.toInt32), .val (.ref ob), .unset, .unset, .unset]) rfl kk_) ?_
    show OwnG p e below s _ _ _ (T8.setTop (mkF m 66 #[.val (.int a), .val (.int b), .val (.int c0), .val (.long v1), .second, .val (.long w1), .second, .val (.int N.toInt32), .val (.int cl.toInt32), .val (.int c2.toInt32), .val (.int sl.toInt32), .val (.int s2.toInt32), .val (.ref ob), .unset, .unset, .unset] []))
    refine own_by (fun t kk_ => XS.aload X8.here hx rfl (hb hby at_66) rfl rfl kk_) ?_
    show OwnG p e below s _ _ _ (T8.setTop (mkF m 68 #[.val (.int a), .val (.int b), .val (.int c0), .val (.long v1), .second, .val (.long w1), .second, .val (.int N.toInt32), .val (.int cl.toInt32), .val (.int c2.toInt32), .val (.int sl.toInt32), .val (.int s2.toInt32), .val (.ref ob), .unset, .unset, .unset] [(.ref ob)]))
    refine own_by (fun t kk_ => XS.iload X8.here hx rfl (hb hby at_68) rfl  kk_) ?_
    show OwnG p e below s _ _ _ (T8.setTop (mkF m 70 #[.val (.int a), .val (.int b), .val (.int c0), .val (.long v1), .second, .val (.long w1), .second, .val (.int N.toInt32), .val (.int cl.toInt32), .val (.int c2.toInt32), .val (.int sl.toInt32), .val (.int s2.toInt32), .val (.ref ob), .unset, .unset, .unset] [(.int s2.toInt32), (.ref ob)]))
    refine own_by (fun t kk_ => XS.iload X8.here hx rfl (hb hby at_70) rfl  kk_) ?_
    show OwnG p e below s _ _ _ (T8.setTop (mkF m 72 #[.val (.int a), .val (.int b), .val (.int c0), .val (.long v1), .second, .val (.long w1), .second, .val (.int N.toInt32), .val (.int cl.toInt32), .val (.int c2.toInt32), .val (.int sl.toInt32), .val (.int s2.toInt32), .val (.ref ob), .unset, .unset, .unset] [(.int c2.toInt32), (.int s2.toInt32), (.ref ob)]))
    refine own_by (fun t kk_ => XS.lload X8.here hx rfl (hb hby at_72) rfl  kk_) ?_
    show OwnG p e below s _ _ _ (T8.setTop (mkF m 74 #[.val (.int a), .val (.int b), .val (.int c0), .val (.long v1), .second, .val (.long w1), .second, .val (.int N.toInt32), .val (.int cl.toInt32), .val (.int c2.toInt32), .val (.int sl.toInt32), .val (.int s2.toInt32), .val (.ref ob), .unset, .unset, .unset] [(.long w1), (.int c2.toInt32), (.int s2.toInt32), (.ref ob)]))
    obtain ⟨cq9, kq9, q9a, q9b, q9c⟩ := isOf hZ (rfl : T8.heap = T8.heap) G8.1
    obtain ⟨_, _, ⟨T9, L9, k9, n9⟩, -, X9, ⟨Lc9, hQ9, l9, y9, z9⟩, st9⟩ := X8.virtualBack hx (y := (⟨"com/example/syncline/syncline/tpcc/LongColumns", "set", "(IIJ)V"⟩ : MethodName)) (z := (⟨"com/example/syncline/syncline/tpcc/LongColumns", "set", "(IIJ)V"⟩ : MethodName)) hown (mvT hZ (hw _ (List.mem_of_getElem? (i := 38) rfl))) (mvT hZ (hw _ (List.mem_of_getElem? (i := 39) rfl))) (notFace_of_selects (args := #[]) (mvT hZ (hw _ (List.mem_of_getElem? (i := 41) rfl)))) (mvT hZ (hw _ (List.mem_of_getElem? (i := 41) rfl))) (mvT hZ (hw _ (List.mem_of_getElem? (i := 40) rfl))) (by decide) (backOf (W := 0) (rm6 l Z a0 hw [] ob co N c2 s2 (fun _ _ => 0) w1 T8.heap n0 sz8 G8 hN4 hc2 hs2 gco) hZ (hw _ (List.mem_of_getElem? (i := 42) rfl)) (hw _ (List.mem_of_getElem? (i := 2) rfl)) (by decide) (by decide)) q9a q9c (g := (mkF m 74 #[.val (.int a), .val (.int b), .val (.int c0), .val (.long v1), .second, .val (.long w1), .second, .val (.int N.toInt32), .val (.int cl.toInt32), .val (.int c2.toInt32), .val (.int sl.toInt32), .val (.int s2.toInt32), .val (.ref ob), .unset, .unset, .unset] [(.long w1), (.int c2.toInt32), (.int s2.toInt32), (.ref ob)])) rfl (by rw [hml]; rfl) (Steps.refl _) (argsL := [(.int s2.toInt32), (.int c2.toInt32), (.long w1)]) (rest := []) (lenOf pd_3 rfl) rfl (by show 2 * 0 + _ ≤ _; exact Nat.le_of_eq rfl) (hb hby at_74) (fun _ _ => ⟨rfl, (rfl : T8.heap = T8.heap), (by decide : 0 + 1 + 13 + 0 ≤ _), (by decide : 0 + 6 + 6154 + 0 ≤ _)⟩)
    dsimp only [Pt.U, Pt.locs, Pt.cells, Pt.slots] at X9 l9 y9 z9 st9 hQ9
    subst l9 y9 z9
    refine own_by (fun t kk_ => st9.trans kk_) ?_
    obtain ⟨rfl, N9q, G9⟩ := hQ9
    have N9 := Fr.app N8 N9q
    have sz9 : n0 ≤ T9.heap.size := Nat.le_trans gco (Nat.le_of_lt G9.2.2.2.1.lt)
    show OwnG p e below s _ _ _ (T9.setTop (mkF m 77 #[.val (.int a), .val (.int b), .val (.int c0), .val (.long v1), .second, .val (.long w1), .second, .val (.int N.toInt32), .val (.int cl.toInt32), .val (.int c2.toInt32), .val (.int sl.toInt32), .val (.int s2.toInt32), .val (.ref ob), .unset, .unset, .unset] []))
    refine own_by (fun t kk_ => XS.aload X9.here hx rfl (hb hby at_77) rfl rfl kk_) ?_
    show OwnG p e below s _ _ _ (T9.setTop (mkF m 79 #[.val (.int a), .val (.int b), .val (.int c0), .val (.long v1), .second, .val (.long w1), .second, .val (.int N.toInt32), .val (.int cl.toInt32), .val (.int c2.toInt32), .val (.int sl.toInt32), .val (.int s2.toInt32), .val (.ref ob), .unset, .unset, .unset] [(.ref ob)]))
    refine own_by (fun t kk_ => XS.iload X9.here hx rfl (hb hby at_79) rfl  kk_) ?_
    show OwnG p e below s _ _ _ (T9.setTop (mkF m 81 #[.val (.int a), .val (.int b), .val (.int c0), .val (.long v1), .second, .val (.long w1), .second, .val (.int N.toInt32), .val (.int cl.toInt32), .val (.int c2.toInt32), .val (.int sl.toInt32), .val (.int s2.toInt32), .val (.ref ob), .unset, .unset, .unset] [(.int sl.toInt32), (.ref ob)]))
    refine own_by (fun t kk_ => XS.iload X9.here hx rfl (hb hby at_81) rfl  kk_) ?_
    show OwnG p e below s _ _ _ (T9.setTop (mkF m 83 #[.val (.int a), .val (.int b), .val (.int c0), .val (.long v1), .second, .val (.long w1), .second, .val (.int N.toInt32), .val (.int cl.toInt32), .val (.int c2.toInt32), .val (.int sl.toInt32), .val (.int s2.toInt32), .val (.ref ob), .unset, .unset, .unset] [(.int cl.toInt32), (.int sl.toInt32), (.ref ob)]))
    refine own_by (fun t kk_ => XS.lloadN X9.here hx rfl (hb hby at_83) rfl  kk_) ?_
    show OwnG p e below s _ _ _ (T9.setTop (mkF m 84 #[.val (.int a), .val (.int b), .val (.int c0), .val (.long v1), .second, .val (.long w1), .second, .val (.int N.toInt32), .val (.int cl.toInt32), .val (.int c2.toInt32), .val (.int sl.toInt32), .val (.int s2.toInt32), .val (.ref ob), .unset, .unset, .unset] [(.long v1), (.int cl.toInt32), (.int sl.toInt32), (.ref ob)]))
    obtain ⟨cq10, kq10, q10a, q10b, q10c⟩ := isOf hZ (rfl : T9.heap = T9.heap) G9.1
    obtain ⟨_, _, ⟨T10, L10, k10, n10⟩, -, X10, ⟨Lc10, hQ10, l10, y10, z10⟩, st10⟩ := X9.virtualBack hx (y := (⟨"com/example/syncline/syncline/tpcc/LongColumns", "set", "(IIJ)V"⟩ : MethodName)) (z := (⟨"com/example/syncline/syncline/tpcc/LongColumns", "set", "(IIJ)V"⟩ : MethodName)) hown (mvT hZ (hw _ (List.mem_of_getElem? (i := 38) rfl))) (mvT hZ (hw _ (List.mem_of_getElem? (i := 39) rfl))) (notFace_of_selects (args := #[]) (mvT hZ (hw _ (List.mem_of_getElem? (i := 41) rfl)))) (mvT hZ (hw _ (List.mem_of_getElem? (i := 41) rfl))) (mvT hZ (hw _ (List.mem_of_getElem? (i := 40) rfl))) (by decide) (backOf (W := 0) (rm6 l Z a0 hw [] ob co N cl sl (own_U (fun _ _ => 0) c2 s2 w1) v1 T9.heap n0 sz9 G9 hN4 hcl hsl gco) hZ (hw _ (List.mem_of_getElem? (i := 42) rfl)) (hw _ (List.mem_of_getElem? (i := 2) rfl)) (by decide) (by decide)) q10a q10c (g := (mkF m 84 #[.val (.int a), .val (.int b), .val (.int c0), .val (.long v1), .second, .val (.long w1), .second, .val (.int N.toInt32), .val (.int cl.toInt32), .val (.int c2.toInt32), .val (.int sl.toInt32), .val (.int s2.toInt32), .val (.ref ob), .unset, .unset, .unset] [(.long v1), (.int cl.toInt32), (.int sl.toInt32), (.ref ob)])) rfl (by rw [hml]; rfl) (Steps.refl _) (argsL := [(.int sl.toInt32), (.int cl.toInt32), (.long v1)]) (rest := []) (lenOf pd_3 rfl) rfl (by show 2 * 0 + _ ≤ _; exact Nat.le_of_eq rfl) (hb hby at_84) (fun _ _ => ⟨rfl, (rfl : T9.heap = T9.heap), (by decide : 0 + 1 + 13 + 0 ≤ _), (by decide : 0 + 6 + 6154 + 0 ≤ _)⟩)
    dsimp only [Pt.U, Pt.locs, Pt.cells, Pt.slots] at X10 l10 y10 z10 st10 hQ10
    subst l10 y10 z10
    refine own_by (fun t kk_ => st10.trans kk_) ?_
    obtain ⟨rfl, N10q, G10⟩ := hQ10
    have N10 := Fr.app N9 N10q
    have sz10 : n0 ≤ T10.heap.size := Nat.le_trans gco (Nat.le_of_lt G10.2.2.2.1.lt)
    show OwnG p e below s _ _ _ (T10.setTop (mkF m 87 #[.val (.int a), .val (.int b), .val (.int c0), .val (.long v1), .second, .val (.long w1), .second, .val (.int N.toInt32), .val (.int cl.toInt32), .val (.int c2.toInt32), .val (.int sl.toInt32), .val (.int s2.toInt32), .val (.ref ob), .unset, .unset, .unset] []))
    refine own_by (fun t kk_ => XS.iload X10.here hx rfl (hb hby at_87) rfl  kk_) ?_
    show OwnG p e below s _ _ _ (T10.setTop (mkF m 89 #[.val (.int a), .val (.int b), .val (.int c0), .val (.long v1), .second, .val (.long w1), .second, .val (.int N.toInt32), .val (.int cl.toInt32), .val (.int c2.toInt32), .val (.int sl.toInt32), .val (.int s2.toInt32), .val (.ref ob), .unset, .unset, .unset] [(.int sl.toInt32)]))
    refine own_by (fun t kk_ => XS.iload X10.here hx rfl (hb hby at_89) rfl  kk_) ?_
    show OwnG p e below s _ _ _ (T10.setTop (mkF m 91 #[.val (.int a), .val (.int b), .val (.int c0), .val (.long v1), .second, .val (.long w1), .second, .val (.int N.toInt32), .val (.int cl.toInt32), .val (.int c2.toInt32), .val (.int sl.toInt32), .val (.int s2.toInt32), .val (.ref ob), .unset, .unset, .unset] [(.int s2.toInt32), (.int sl.toInt32)]))
    by_cases h91 : sl.toInt32 = s2.toInt32
    · refine own_by (fun t kk_ => XS.icmpNo X10.here hx rfl (hb hby at_91) rfl (teq h91).2 kk_) ?_
      show OwnG p e below s _ _ _ (T10.setTop (mkF m 94 #[.val (.int a), .val (.int b), .val (.int c0), .val (.long v1), .second, .val (.long w1), .second, .val (.int N.toInt32), .val (.int cl.toInt32), .val (.int c2.toInt32), .val (.int sl.toInt32), .val (.int s2.toInt32), .val (.ref ob), .unset, .unset, .unset] []))
      refine own_by (fun t kk_ => XS.iload X10.here hx rfl (hb hby at_94) rfl  kk_) ?_
      show OwnG p e below s _ _ _ (T10.setTop (mkF m 96 #[.val (.int a), .val (.int b), .val (.int c0), .val (.long v1), .second, .val (.long w1), .second, .val (.int N.toInt32), .val (.int cl.toInt32), .val (.int c2.toInt32), .val (.int sl.toInt32), .val (.int s2.toInt32), .val (.ref ob), .unset, .unset, .unset] [(.int cl.toInt32)]))
      refine own_by (fun t kk_ => XS.iload X10.here hx rfl (hb hby at_96) rfl  kk_) ?_
      show OwnG p e below s _ _ _ (T10.setTop (mkF m 98 #[.val (.int a), .val (.int b), .val (.int c0), .val (.long v1), .second, .val (.long w1), .second, .val (.int N.toInt32), .val (.int cl.toInt32), .val (.int c2.toInt32), .val (.int sl.toInt32), .val (.int s2.toInt32), .val (.ref ob), .unset, .unset, .unset] [(.int c2.toInt32), (.int cl.toInt32)]))
      by_cases h98 : cl.toInt32 = c2.toInt32
      · refine own_by (fun t kk_ => XS.icmpNo X10.here hx rfl (hb hby at_98) rfl (teq h98).2 kk_) ?_
        show OwnG p e below s _ _ _ (T10.setTop (mkF m 101 #[.val (.int a), .val (.int b), .val (.int c0), .val (.long v1), .second, .val (.long w1), .second, .val (.int N.toInt32), .val (.int cl.toInt32), .val (.int c2.toInt32), .val (.int sl.toInt32), .val (.int s2.toInt32), .val (.ref ob), .unset, .unset, .unset] []))
        refine own_by (fun t kk_ => XS.iconst X10.here hx rfl (hb hby at_101) kk_) ?_
        show OwnG p e below s _ _ _ (T10.setTop (mkF m 102 #[.val (.int a), .val (.int b), .val (.int c0), .val (.long v1), .second, .val (.long w1), .second, .val (.int N.toInt32), .val (.int cl.toInt32), .val (.int c2.toInt32), .val (.int sl.toInt32), .val (.int s2.toInt32), .val (.ref ob), .unset, .unset, .unset] [(.int (1 : Int32))]))
        refine own_by (fun t kk_ => XS.goto X10.here hx rfl (pc0 := 102) (pc' := 106) rfl (hb hby at_102) (by decide) (by decide) kk_) ?_
        show OwnG p e below s _ _ _ (T10.setTop (mkF m 106 #[.val (.int a), .val (.int b), .val (.int c0), .val (.long v1), .second, .val (.long w1), .second, .val (.int N.toInt32), .val (.int cl.toInt32), .val (.int c2.toInt32), .val (.int sl.toInt32), .val (.int s2.toInt32), .val (.ref ob), .unset, .unset, .unset] [(.int (1 : Int32))]))
        refine own_by (fun t kk_ => XS.istore X10.here hx rfl (hb hby at_106) rfl (l' := #[.val (.int a), .val (.int b), .val (.int c0), .val (.long v1), .second, .val (.long w1), .second, .val (.int N.toInt32), .val (.int cl.toInt32), .val (.int c2.toInt32), .val (.int sl.toInt32), .val (.int s2.toInt32), .val (.ref ob), .val (.int (1 : Int32)), .unset, .unset]) rfl kk_) ?_
        show OwnG p e below s _ _ _ (T10.setTop (mkF m 108 #[.val (.int a), .val (.int b), .val (.int c0), .val (.long v1), .second, .val (.long w1), .second, .val (.int N.toInt32), .val (.int cl.toInt32), .val (.int c2.toInt32), .val (.int sl.toInt32), .val (.int s2.toInt32), .val (.ref ob), .val (.int (1 : Int32)), .unset, .unset] []))
        refine own_by (fun t kk_ => XS.iload X10.here hx rfl (hb hby at_108) rfl  kk_) ?_
        show OwnG p e below s _ _ _ (T10.setTop (mkF m 110 #[.val (.int a), .val (.int b), .val (.int c0), .val (.long v1), .second, .val (.long w1), .second, .val (.int N.toInt32), .val (.int cl.toInt32), .val (.int c2.toInt32), .val (.int sl.toInt32), .val (.int s2.toInt32), .val (.ref ob), .val (.int (1 : Int32)), .unset, .unset] [(.int (1 : Int32))]))
        refine own_by (fun t kk_ => XS.ifNo X10.here hx rfl (hb hby at_110) rfl ((if0 _ _).trans (feq (by decide)).1) kk_) ?_
        show OwnG p e below s _ _ _ (T10.setTop (mkF m 113 #[.val (.int a), .val (.int b), .val (.int c0), .val (.long v1), .second, .val (.long w1), .second, .val (.int N.toInt32), .val (.int cl.toInt32), .val (.int c2.toInt32), .val (.int sl.toInt32), .val (.int s2.toInt32), .val (.ref ob), .val (.int (1 : Int32)), .unset, .unset] []))
        refine own_by (fun t kk_ => XS.lloadN X10.here hx rfl (hb hby at_113) rfl  kk_) ?_
        show OwnG p e below s _ _ _ (T10.setTop (mkF m 114 #[.val (.int a), .val (.int b), .val (.int c0), .val (.long v1), .second, .val (.long w1), .second, .val (.int N.toInt32), .val (.int cl.toInt32), .val (.int c2.toInt32), .val (.int sl.toInt32), .val (.int s2.toInt32), .val (.ref ob), .val (.int (1 : Int32)), .unset, .unset] [(.long v1)]))
        refine own_by (fun t kk_ => XS.goto X10.here hx rfl (pc0 := 114) (pc' := 119) rfl (hb hby at_114) (by decide) (by decide) kk_) ?_
        show OwnG p e below s _ _ _ (T10.setTop (mkF m 119 #[.val (.int a), .val (.int b), .val (.int c0), .val (.long v1), .second, .val (.long w1), .second, .val (.int N.toInt32), .val (.int cl.toInt32), .val (.int c2.toInt32), .val (.int sl.toInt32), .val (.int s2.toInt32), .val (.ref ob), .val (.int (1 : Int32)), .unset, .unset] [(.long v1)]))
        refine own_by (fun t kk_ => XS.lstore X10.here hx rfl (hb hby at_119) rfl (l' := #[.val (.int a), .val (.int b), .val (.int c0), .val (.long v1), .second, .val (.long w1), .second, .val (.int N.toInt32), .val (.int cl.toInt32), .val (.int c2.toInt32), .val (.int sl.toInt32), .val (.int s2.toInt32), .val (.ref ob), .val (.int (1 : Int32)), .val (.long v1), .second]) rfl kk_) ?_
        show OwnG p e below s _ _ _ (T10.setTop (mkF m 121 #[.val (.int a), .val (.int b), .val (.int c0), .val (.long v1), .second, .val (.long w1), .second, .val (.int N.toInt32), .val (.int cl.toInt32), .val (.int c2.toInt32), .val (.int sl.toInt32), .val (.int s2.toInt32), .val (.ref ob), .val (.int (1 : Int32)), .val (.long v1), .second] []))
        refine own_by (fun t kk_ => XS.aload X10.here hx rfl (hb hby at_121) rfl rfl kk_) ?_
        show OwnG p e below s _ _ _ (T10.setTop (mkF m 123 #[.val (.int a), .val (.int b), .val (.int c0), .val (.long v1), .second, .val (.long w1), .second, .val (.int N.toInt32), .val (.int cl.toInt32), .val (.int c2.toInt32), .val (.int sl.toInt32), .val (.int s2.toInt32), .val (.ref ob), .val (.int (1 : Int32)), .val (.long v1), .second] [(.ref ob)]))
        refine own_by (fun t kk_ => XS.iload X10.here hx rfl (hb hby at_123) rfl  kk_) ?_
        show OwnG p e below s _ _ _ (T10.setTop (mkF m 125 #[.val (.int a), .val (.int b), .val (.int c0), .val (.long v1), .second, .val (.long w1), .second, .val (.int N.toInt32), .val (.int cl.toInt32), .val (.int c2.toInt32), .val (.int sl.toInt32), .val (.int s2.toInt32), .val (.ref ob), .val (.int (1 : Int32)), .val (.long v1), .second] [(.int sl.toInt32), (.ref ob)]))
        refine own_by (fun t kk_ => XS.iload X10.here hx rfl (hb hby at_125) rfl  kk_) ?_
        show OwnG p e below s _ _ _ (T10.setTop (mkF m 127 #[.val (.int a), .val (.int b), .val (.int c0), .val (.long v1), .second, .val (.long w1), .second, .val (.int N.toInt32), .val (.int cl.toInt32), .val (.int c2.toInt32), .val (.int sl.toInt32), .val (.int s2.toInt32), .val (.ref ob), .val (.int (1 : Int32)), .val (.long v1), .second] [(.int cl.toInt32), (.int sl.toInt32), (.ref ob)]))
        obtain ⟨cq11, kq11, q11a, q11b, q11c⟩ := isOf hZ (rfl : T10.heap = T10.heap) G10.1
        obtain ⟨_, _, ⟨T11, L11, k11, n11⟩, -, X11, ⟨Lc11, hQ11, l11, y11, z11⟩, st11⟩ := X10.virtualBack hx (y := (⟨"com/example/syncline/syncline/tpcc/LongColumns", "get", "(II)J"⟩ : MethodName)) (z := (⟨"com/example/syncline/syncline/tpcc/LongColumns", "get", "(II)J"⟩ : MethodName)) hown (mvT hZ (hw _ (List.mem_of_getElem? (i := 43) rfl))) (mvT hZ (hw _ (List.mem_of_getElem? (i := 44) rfl))) (notFace_of_selects (args := #[]) (mvT hZ (hw _ (List.mem_of_getElem? (i := 46) rfl)))) (mvT hZ (hw _ (List.mem_of_getElem? (i := 46) rfl))) (mvT hZ (hw _ (List.mem_of_getElem? (i := 45) rfl))) (by decide) (backOf (W := 0) (rm7 l Z a0 hw [] ob co N cl sl (own_U (own_U (fun _ _ => 0) c2 s2 w1) cl sl v1) T10.heap n0 sz10 G10 hN4 hcl hsl gco) hZ (hw _ (List.mem_of_getElem? (i := 47) rfl)) (hw _ (List.mem_of_getElem? (i := 2) rfl)) (by decide) (by decide)) q11a q11c (g := (mkF m 127 #[.val (.int a), .val (.int b), .val (.int c0), .val (.long v1), .second, .val (.long w1), .second, .val (.int N.toInt32), .val (.int cl.toInt32), .val (.int c2.toInt32), .val (.int sl.toInt32), .val (.int s2.toInt32), .val (.ref ob), .val (.int (1 : Int32)), .val (.long v1), .second] [(.int cl.toInt32), (.int sl.toInt32), (.ref ob)])) rfl (by rw [hml]; rfl) (Steps.refl _) (argsL := [(.int sl.toInt32), (.int cl.toInt32)]) (rest := []) (lenOf pd_4 rfl) rfl (by show 2 * 0 + _ ≤ _; exact Nat.le_of_eq rfl) (hb hby at_127) (fun _ _ => ⟨rfl, (rfl : T10.heap = T10.heap), (by decide : 0 + 1 + 13 + 0 ≤ _), (by decide : 0 + 6 + 6154 + 0 ≤ _)⟩)
        dsimp only [Pt.U, Pt.locs, Pt.cells, Pt.slots] at X11 l11 y11 z11 st11 hQ11
        subst l11 y11 z11
        refine own_by (fun t kk_ => st11.trans kk_) ?_
        obtain ⟨rfl, N11q, hh11⟩ := hQ11
        have N11 := Fr.app N10 N11q
        have G11 := G10
        rw [← hh11] at G11
        have sz11 : n0 ≤ T11.heap.size := Nat.le_trans gco (Nat.le_of_lt G11.2.2.2.1.lt)
        show OwnG p e below s _ _ _ (T11.setTop (mkF m 130 #[.val (.int a), .val (.int b), .val (.int c0), .val (.long v1), .second, .val (.long w1), .second, .val (.int N.toInt32), .val (.int cl.toInt32), .val (.int c2.toInt32), .val (.int sl.toInt32), .val (.int s2.toInt32), .val (.ref ob), .val (.int (1 : Int32)), .val (.long v1), .second] [(.long ((own_U (own_U (fun _ _ => 0) c2 s2 w1) cl sl v1) cl sl))]))
        refine own_by (fun t kk_ => XS.lloadN X11.here hx rfl (hb hby at_130) rfl  kk_) ?_
        show OwnG p e below s _ _ _ (T11.setTop (mkF m 131 #[.val (.int a), .val (.int b), .val (.int c0), .val (.long v1), .second, .val (.long w1), .second, .val (.int N.toInt32), .val (.int cl.toInt32), .val (.int c2.toInt32), .val (.int sl.toInt32), .val (.int s2.toInt32), .val (.ref ob), .val (.int (1 : Int32)), .val (.long v1), .second] [(.long v1), (.long ((own_U (own_U (fun _ _ => 0) c2 s2 w1) cl sl v1) cl sl))]))
        refine own_by (fun t kk_ => XS.lcmp X11.here hx rfl (hb hby at_131) rfl kk_) ?_
        show OwnG p e below s _ _ _ (T11.setTop (mkF m 132 #[.val (.int a), .val (.int b), .val (.int c0), .val (.long v1), .second, .val (.long w1), .second, .val (.int N.toInt32), .val (.int cl.toInt32), .val (.int c2.toInt32), .val (.int sl.toInt32), .val (.int s2.toInt32), .val (.ref ob), .val (.int (1 : Int32)), .val (.long v1), .second] [(.int (lcmpW ((own_U (own_U (fun _ _ => 0) c2 s2 w1) cl sl v1) cl sl) v1))]))
        refine own_by (fun t kk_ => XS.ifNo X11.here hx rfl (hb hby at_132) rfl ((if0 _ _).trans (teq ((lw_eq _ _).mpr (own_UH _ _ _ _))).2) kk_) ?_
        show OwnG p e below s _ _ _ (T11.setTop (mkF m 135 #[.val (.int a), .val (.int b), .val (.int c0), .val (.long v1), .second, .val (.long w1), .second, .val (.int N.toInt32), .val (.int cl.toInt32), .val (.int c2.toInt32), .val (.int sl.toInt32), .val (.int s2.toInt32), .val (.ref ob), .val (.int (1 : Int32)), .val (.long v1), .second] []))
        refine own_by (fun t kk_ => XS.aload X11.here hx rfl (hb hby at_135) rfl rfl kk_) ?_
        show OwnG p e below s _ _ _ (T11.setTop (mkF m 137 #[.val (.int a), .val (.int b), .val (.int c0), .val (.long v1), .second, .val (.long w1), .second, .val (.int N.toInt32), .val (.int cl.toInt32), .val (.int c2.toInt32), .val (.int sl.toInt32), .val (.int s2.toInt32), .val (.ref ob), .val (.int (1 : Int32)), .val (.long v1), .second] [(.ref ob)]))
        refine own_by (fun t kk_ => XS.iload X11.here hx rfl (hb hby at_137) rfl  kk_) ?_
        show OwnG p e below s _ _ _ (T11.setTop (mkF m 139 #[.val (.int a), .val (.int b), .val (.int c0), .val (.long v1), .second, .val (.long w1), .second, .val (.int N.toInt32), .val (.int cl.toInt32), .val (.int c2.toInt32), .val (.int sl.toInt32), .val (.int s2.toInt32), .val (.ref ob), .val (.int (1 : Int32)), .val (.long v1), .second] [(.int s2.toInt32), (.ref ob)]))
        refine own_by (fun t kk_ => XS.iload X11.here hx rfl (hb hby at_139) rfl  kk_) ?_
        show OwnG p e below s _ _ _ (T11.setTop (mkF m 141 #[.val (.int a), .val (.int b), .val (.int c0), .val (.long v1), .second, .val (.long w1), .second, .val (.int N.toInt32), .val (.int cl.toInt32), .val (.int c2.toInt32), .val (.int sl.toInt32), .val (.int s2.toInt32), .val (.ref ob), .val (.int (1 : Int32)), .val (.long v1), .second] [(.int c2.toInt32), (.int s2.toInt32), (.ref ob)]))
        obtain ⟨cq12, kq12, q12a, q12b, q12c⟩ := isOf hZ (rfl : T11.heap = T11.heap) G11.1
        obtain ⟨_, _, ⟨T12, L12, k12, n12⟩, -, X12, ⟨Lc12, hQ12, l12, y12, z12⟩, st12⟩ := X11.virtualBack hx (y := (⟨"com/example/syncline/syncline/tpcc/LongColumns", "get", "(II)J"⟩ : MethodName)) (z := (⟨"com/example/syncline/syncline/tpcc/LongColumns", "get", "(II)J"⟩ : MethodName)) hown (mvT hZ (hw _ (List.mem_of_getElem? (i := 43) rfl))) (mvT hZ (hw _ (List.mem_of_getElem? (i := 44) rfl))) (notFace_of_selects (args := #[]) (mvT hZ (hw _ (List.mem_of_getElem? (i := 46) rfl)))) (mvT hZ (hw _ (List.mem_of_getElem? (i := 46) rfl))) (mvT hZ (hw _ (List.mem_of_getElem? (i := 45) rfl))) (by decide) (backOf (W := 0) (rm7 l Z a0 hw [] ob co N c2 s2 (own_U (own_U (fun _ _ => 0) c2 s2 w1) cl sl v1) T11.heap n0 sz11 G11 hN4 hc2 hs2 gco) hZ (hw _ (List.mem_of_getElem? (i := 47) rfl)) (hw _ (List.mem_of_getElem? (i := 2) rfl)) (by decide) (by decide)) q12a q12c (g := (mkF m 141 #[.val (.int a), .val (.int b), .val (.int c0), .val (.long v1), .second, .val (.long w1), .second, .val (.int N.toInt32), .val (.int cl.toInt32), .val (.int c2.toInt32), .val (.int sl.toInt32), .val (.int s2.toInt32), .val (.ref ob), .val (.int (1 : Int32)), .val (.long v1), .second] [(.int c2.toInt32), (.int s2.toInt32), (.ref ob)])) rfl (by rw [hml]; rfl) (Steps.refl _) (argsL := [(.int s2.toInt32), (.int c2.toInt32)]) (rest := []) (lenOf pd_4 rfl) rfl (by show 2 * 0 + _ ≤ _; exact Nat.le_of_eq rfl) (hb hby at_141) (fun _ _ => ⟨rfl, (rfl : T11.heap = T11.heap), (by decide : 0 + 1 + 13 + 0 ≤ _), (by decide : 0 + 6 + 6154 + 0 ≤ _)⟩)
        dsimp only [Pt.U, Pt.locs, Pt.cells, Pt.slots] at X12 l12 y12 z12 st12 hQ12
        subst l12 y12 z12
        refine own_by (fun t kk_ => st12.trans kk_) ?_
        obtain ⟨rfl, N12q, hh12⟩ := hQ12
        have N12 := Fr.app N11 N12q
        have G12 := G11
        rw [← hh12] at G12
        have sz12 : n0 ≤ T12.heap.size := Nat.le_trans gco (Nat.le_of_lt G12.2.2.2.1.lt)
        show OwnG p e below s _ _ _ (T12.setTop (mkF m 144 #[.val (.int a), .val (.int b), .val (.int c0), .val (.long v1), .second, .val (.long w1), .second, .val (.int N.toInt32), .val (.int cl.toInt32), .val (.int c2.toInt32), .val (.int sl.toInt32), .val (.int s2.toInt32), .val (.ref ob), .val (.int (1 : Int32)), .val (.long v1), .second] [(.long ((own_U (own_U (fun _ _ => 0) c2 s2 w1) cl sl v1) c2 s2))]))
        refine own_by (fun t kk_ => XS.lload X12.here hx rfl (hb hby at_144) rfl  kk_) ?_
        show OwnG p e below s _ _ _ (T12.setTop (mkF m 146 #[.val (.int a), .val (.int b), .val (.int c0), .val (.long v1), .second, .val (.long w1), .second, .val (.int N.toInt32), .val (.int cl.toInt32), .val (.int c2.toInt32), .val (.int sl.toInt32), .val (.int s2.toInt32), .val (.ref ob), .val (.int (1 : Int32)), .val (.long v1), .second] [(.long v1), (.long ((own_U (own_U (fun _ _ => 0) c2 s2 w1) cl sl v1) c2 s2))]))
        refine own_by (fun t kk_ => XS.lcmp X12.here hx rfl (hb hby at_146) rfl kk_) ?_
        show OwnG p e below s _ _ _ (T12.setTop (mkF m 147 #[.val (.int a), .val (.int b), .val (.int c0), .val (.long v1), .second, .val (.long w1), .second, .val (.int N.toInt32), .val (.int cl.toInt32), .val (.int c2.toInt32), .val (.int sl.toInt32), .val (.int s2.toInt32), .val (.ref ob), .val (.int (1 : Int32)), .val (.long v1), .second] [(.int (lcmpW ((own_U (own_U (fun _ _ => 0) c2 s2 w1) cl sl v1) c2 s2) v1))]))
        refine own_by (fun t kk_ => XS.ifNo X12.here hx rfl (hb hby at_147) rfl ((if0 _ _).trans (teq ((lw_eq _ _).mpr (by obtain rfl := own_inj (by omega) (by omega) h98; obtain rfl := own_inj (by omega) (by omega) h91; exact own_UH _ _ _ _))).2) kk_) ?_
        show OwnG p e below s _ _ _ (T12.setTop (mkF m 150 #[.val (.int a), .val (.int b), .val (.int c0), .val (.long v1), .second, .val (.long w1), .second, .val (.int N.toInt32), .val (.int cl.toInt32), .val (.int c2.toInt32), .val (.int sl.toInt32), .val (.int s2.toInt32), .val (.ref ob), .val (.int (1 : Int32)), .val (.long v1), .second] []))
        refine own_by (fun t kk_ => XS.iconst X12.here hx rfl (hb hby at_150) kk_) ?_
        show OwnG p e below s _ _ _ (T12.setTop (mkF m 151 #[.val (.int a), .val (.int b), .val (.int c0), .val (.long v1), .second, .val (.long w1), .second, .val (.int N.toInt32), .val (.int cl.toInt32), .val (.int c2.toInt32), .val (.int sl.toInt32), .val (.int s2.toInt32), .val (.ref ob), .val (.int (1 : Int32)), .val (.long v1), .second] [(.int (1 : Int32))]))
        refine own_by (fun t kk_ => XS.goto X12.here hx rfl (pc0 := 151) (pc' := 155) rfl (hb hby at_151) (by decide) (by decide) kk_) ?_
        show OwnG p e below s _ _ _ (T12.setTop (mkF m 155 #[.val (.int a), .val (.int b), .val (.int c0), .val (.long v1), .second, .val (.long w1), .second, .val (.int N.toInt32), .val (.int cl.toInt32), .val (.int c2.toInt32), .val (.int sl.toInt32), .val (.int s2.toInt32), .val (.ref ob), .val (.int (1 : Int32)), .val (.long v1), .second] [(.int (1 : Int32))]))
        exact own_outN X12 hx hret (by simp) hlk (hb hby at_155) rfl (⟨rfl, N12⟩) (by decide) (by decide)
      · refine own_by (fun t kk_ => XS.icmpYes X10.here hx rfl (pc0 := 98) (pc' := 105) rfl (hb hby at_98) rfl (feq h98).2 (by decide) (by decide) kk_) ?_
        show OwnG p e below s _ _ _ (T10.setTop (mkF m 105 #[.val (.int a), .val (.int b), .val (.int c0), .val (.long v1), .second, .val (.long w1), .second, .val (.int N.toInt32), .val (.int cl.toInt32), .val (.int c2.toInt32), .val (.int sl.toInt32), .val (.int s2.toInt32), .val (.ref ob), .unset, .unset, .unset] []))
        refine own_by (fun t kk_ => XS.iconst X10.here hx rfl (hb hby at_105) kk_) ?_
        show OwnG p e below s _ _ _ (T10.setTop (mkF m 106 #[.val (.int a), .val (.int b), .val (.int c0), .val (.long v1), .second, .val (.long w1), .second, .val (.int N.toInt32), .val (.int cl.toInt32), .val (.int c2.toInt32), .val (.int sl.toInt32), .val (.int s2.toInt32), .val (.ref ob), .unset, .unset, .unset] [(.int (0 : Int32))]))
        refine own_by (fun t kk_ => XS.istore X10.here hx rfl (hb hby at_106) rfl (l' := #[.val (.int a), .val (.int b), .val (.int c0), .val (.long v1), .second, .val (.long w1), .second, .val (.int N.toInt32), .val (.int cl.toInt32), .val (.int c2.toInt32), .val (.int sl.toInt32), .val (.int s2.toInt32), .val (.ref ob), .val (.int (0 : Int32)), .unset, .unset]) rfl kk_) ?_
        show OwnG p e below s _ _ _ (T10.setTop (mkF m 108 #[.val (.int a), .val (.int b), .val (.int c0), .val (.long v1), .second, .val (.long w1), .second, .val (.int N.toInt32), .val (.int cl.toInt32), .val (.int c2.toInt32), .val (.int sl.toInt32), .val (.int s2.toInt32), .val (.ref ob), .val (.int (0 : Int32)), .unset, .unset] []))
        refine own_by (fun t kk_ => XS.iload X10.here hx rfl (hb hby at_108) rfl  kk_) ?_
        show OwnG p e below s _ _ _ (T10.setTop (mkF m 110 #[.val (.int a), .val (.int b), .val (.int c0), .val (.long v1), .second, .val (.long w1), .second, .val (.int N.toInt32), .val (.int cl.toInt32), .val (.int c2.toInt32), .val (.int sl.toInt32), .val (.int s2.toInt32), .val (.ref ob), .val (.int (0 : Int32)), .unset, .unset] [(.int (0 : Int32))]))
        refine own_by (fun t kk_ => XS.ifYes X10.here hx rfl (pc0 := 110) (pc' := 117) rfl (hb hby at_110) rfl ((if0 _ _).trans (teq (by decide)).1) (by decide) (by decide) kk_) ?_
        show OwnG p e below s _ _ _ (T10.setTop (mkF m 117 #[.val (.int a), .val (.int b), .val (.int c0), .val (.long v1), .second, .val (.long w1), .second, .val (.int N.toInt32), .val (.int cl.toInt32), .val (.int c2.toInt32), .val (.int sl.toInt32), .val (.int s2.toInt32), .val (.ref ob), .val (.int (0 : Int32)), .unset, .unset] []))
        refine own_by (fun t kk_ => XS.lload X10.here hx rfl (hb hby at_117) rfl  kk_) ?_
        show OwnG p e below s _ _ _ (T10.setTop (mkF m 119 #[.val (.int a), .val (.int b), .val (.int c0), .val (.long v1), .second, .val (.long w1), .second, .val (.int N.toInt32), .val (.int cl.toInt32), .val (.int c2.toInt32), .val (.int sl.toInt32), .val (.int s2.toInt32), .val (.ref ob), .val (.int (0 : Int32)), .unset, .unset] [(.long w1)]))
        refine own_by (fun t kk_ => XS.lstore X10.here hx rfl (hb hby at_119) rfl (l' := #[.val (.int a), .val (.int b), .val (.int c0), .val (.long v1), .second, .val (.long w1), .second, .val (.int N.toInt32), .val (.int cl.toInt32), .val (.int c2.toInt32), .val (.int sl.toInt32), .val (.int s2.toInt32), .val (.ref ob), .val (.int (0 : Int32)), .val (.long w1), .second]) rfl kk_) ?_
        show OwnG p e below s _ _ _ (T10.setTop (mkF m 121 #[.val (.int a), .val (.int b), .val (.int c0), .val (.long v1), .second, .val (.long w1), .second, .val (.int N.toInt32), .val (.int cl.toInt32), .val (.int c2.toInt32), .val (.int sl.toInt32), .val (.int s2.toInt32), .val (.ref ob), .val (.int (0 : Int32)), .val (.long w1), .second] []))
        refine own_by (fun t kk_ => XS.aload X10.here hx rfl (hb hby at_121) rfl rfl kk_) ?_
        show OwnG p e below s _ _ _ (T10.setTop (mkF m 123 #[.val (.int a), .val (.int b), .val (.int c0), .val (.long v1), .second, .val (.long w1), .second, .val (.int N.toInt32), .val (.int cl.toInt32), .val (.int c2.toInt32), .val (.int sl.toInt32), .val (.int s2.toInt32), .val (.ref ob), .val (.int (0 : Int32)), .val (.long w1), .second] [(.ref ob)]))
        refine own_by (fun t kk_ => XS.iload X10.here hx rfl (hb hby at_123) rfl  kk_) ?_
        show OwnG p e below s _ _ _ (T10.setTop (mkF m 125 #[.val (.int a), .val (.int b), .val (.int c0), .val (.long v1), .second, .val (.long w1), .second, .val (.int N.toInt32), .val (.int cl.toInt32), .val (.int c2.toInt32), .val (.int sl.toInt32), .val (.int s2.toInt32), .val (.ref ob), .val (.int (0 : Int32)), .val (.long w1), .second] [(.int sl.toInt32), (.ref ob)]))
        refine own_by (fun t kk_ => XS.iload X10.here hx rfl (hb hby at_125) rfl  kk_) ?_
        show OwnG p e below s _ _ _ (T10.setTop (mkF m 127 #[.val (.int a), .val (.int b), .val (.int c0), .val (.long v1), .second, .val (.long w1), .second, .val (.int N.toInt32), .val (.int cl.toInt32), .val (.int c2.toInt32), .val (.int sl.toInt32), .val (.int s2.toInt32), .val (.ref ob), .val (.int (0 : Int32)), .val (.long w1), .second] [(.int cl.toInt32), (.int sl.toInt32), (.ref ob)]))
        obtain ⟨cq13, kq13, q13a, q13b, q13c⟩ := isOf hZ (rfl : T10.heap = T10.heap) G10.1
        obtain ⟨_, _, ⟨T13, L13, k13, n13⟩, -, X13, ⟨Lc13, hQ13, l13, y13, z13⟩, st13⟩ := X10.virtualBack hx (y := (⟨"com/example/syncline/syncline/tpcc/LongColumns", "get", "(II)J"⟩ : MethodName)) (z := (⟨"com/example/syncline/syncline/tpcc/LongColumns", "get", "(II)J"⟩ : MethodName)) hown (mvT hZ (hw _ (List.mem_of_getElem? (i := 43) rfl))) (mvT hZ (hw _ (List.mem_of_getElem? (i := 44) rfl))) (notFace_of_selects (args := #[]) (mvT hZ (hw _ (List.mem_of_getElem? (i := 46) rfl)))) (mvT hZ (hw _ (List.mem_of_getElem? (i := 46) rfl))) (mvT hZ (hw _ (List.mem_of_getElem? (i := 45) rfl))) (by decide) (backOf (W := 0) (rm7 l Z a0 hw [] ob co N cl sl (own_U (own_U (fun _ _ => 0) c2 s2 w1) cl sl v1) T10.heap n0 sz10 G10 hN4 hcl hsl gco) hZ (hw _ (List.mem_of_getElem? (i := 47) rfl)) (hw _ (List.mem_of_getElem? (i := 2) rfl)) (by decide) (by decide)) q13a q13c (g := (mkF m 127 #[.val (.int a), .val (.int b), .val (.int c0), .val (.long v1), .second, .val (.long w1), .second, .val (.int N.toInt32), .val (.int cl.toInt32), .val (.int c2.toInt32), .val (.int sl.toInt32), .val (.int s2.toInt32), .val (.ref ob), .val (.int (0 : Int32)), .val (.long w1), .second] [(.int cl.toInt32), (.int sl.toInt32), (.ref ob)])) rfl (by rw [hml]; rfl) (Steps.refl _) (argsL := [(.int sl.toInt32), (.int cl.toInt32)]) (rest := []) (lenOf pd_4 rfl) rfl (by show 2 * 0 + _ ≤ _; exact Nat.le_of_eq rfl) (hb hby at_127) (fun _ _ => ⟨rfl, (rfl : T10.heap = T10.heap), (by decide : 0 + 1 + 13 + 0 ≤ _), (by decide : 0 + 6 + 6154 + 0 ≤ _)⟩)
        dsimp only [Pt.U, Pt.locs, Pt.cells, Pt.slots] at X13 l13 y13 z13 st13 hQ13
        subst l13 y13 z13
        refine own_by (fun t kk_ => st13.trans kk_) ?_
        obtain ⟨rfl, N13q, hh13⟩ := hQ13
        have N13 := Fr.app N10 N13q
        have G13 := G10
        rw [← hh13] at G13
        have sz13 : n0 ≤ T13.heap.size := Nat.le_trans gco (Nat.le_of_lt G13.2.2.2.1.lt)
        show OwnG p e below s _ _ _ (T13.setTop (mkF m 130 #[.val (.int a), .val (.int b), .val (.int c0), .val (.long v1), .second, .val (.long w1), .second, .val (.int N.toInt32), .val (.int cl.toInt32), .val (.int c2.toInt32), .val (.int sl.toInt32), .val (.int s2.toInt32), .val (.ref ob), .val (.int (0 : Int32)), .val (.long w1), .second] [(.long ((own_U (own_U (fun _ _ => 0) c2 s2 w1) cl sl v1) cl sl))]))
        refine own_by (fun t kk_ => XS.lloadN X13.here hx rfl (hb hby at_130) rfl  kk_) ?_
        show OwnG p e below s _ _ _ (T13.setTop (mkF m 131 #[.val (.int a), .val (.int b), .val (.int c0), .val (.long v1), .second, .val (.long w1), .second, .val (.int N.toInt32), .val (.int cl.toInt32), .val (.int c2.toInt32), .val (.int sl.toInt32), .val (.int s2.toInt32), .val (.ref ob), .val (.int (0 : Int32)), .val (.long w1), .second] [(.long v1), (.long ((own_U (own_U (fun _ _ => 0) c2 s2 w1) cl sl v1) cl sl))]))
        refine own_by (fun t kk_ => XS.lcmp X13.here hx rfl (hb hby at_131) rfl kk_) ?_
        show OwnG p e below s _ _ _ (T13.setTop (mkF m 132 #[.val (.int a), .val (.int b), .val (.int c0), .val (.long v1), .second, .val (.long w1), .second, .val (.int N.toInt32), .val (.int cl.toInt32), .val (.int c2.toInt32), .val (.int sl.toInt32), .val (.int s2.toInt32), .val (.ref ob), .val (.int (0 : Int32)), .val (.long w1), .second] [(.int (lcmpW ((own_U (own_U (fun _ _ => 0) c2 s2 w1) cl sl v1) cl sl) v1))]))
        refine own_by (fun t kk_ => XS.ifNo X13.here hx rfl (hb hby at_132) rfl ((if0 _ _).trans (teq ((lw_eq _ _).mpr (own_UH _ _ _ _))).2) kk_) ?_
        show OwnG p e below s _ _ _ (T13.setTop (mkF m 135 #[.val (.int a), .val (.int b), .val (.int c0), .val (.long v1), .second, .val (.long w1), .second, .val (.int N.toInt32), .val (.int cl.toInt32), .val (.int c2.toInt32), .val (.int sl.toInt32), .val (.int s2.toInt32), .val (.ref ob), .val (.int (0 : Int32)), .val (.long w1), .second] []))
        refine own_by (fun t kk_ => XS.aload X13.here hx rfl (hb hby at_135) rfl rfl kk_) ?_
        show OwnG p e below s _ _ _ (T13.setTop (mkF m 137 #[.val (.int a), .val (.int b), .val (.int c0), .val (.long v1), .second, .val (.long w1), .second, .val (.int N.toInt32), .val (.int cl.toInt32), .val (.int c2.toInt32), .val (.int sl.toInt32), .val (.int s2.toInt32), .val (.ref ob), .val (.int (0 : Int32)), .val (.long w1), .second] [(.ref ob)]))
        refine own_by (fun t kk_ => XS.iload X13.here hx rfl (hb hby at_137) rfl  kk_) ?_
        show OwnG p e below s _ _ _ (T13.setTop (mkF m 139 #[.val (.int a), .val (.int b), .val (.int c0), .val (.long v1), .second, .val (.long w1), .second, .val (.int N.toInt32), .val (.int cl.toInt32), .val (.int c2.toInt32), .val (.int sl.toInt32), .val (.int s2.toInt32), .val (.ref ob), .val (.int (0 : Int32)), .val (.long w1), .second] [(.int s2.toInt32), (.ref ob)]))
        refine own_by (fun t kk_ => XS.iload X13.here hx rfl (hb hby at_139) rfl  kk_) ?_
        show OwnG p e below s _ _ _ (T13.setTop (mkF m 141 #[.val (.int a), .val (.int b), .val (.int c0), .val (.long v1), .second, .val (.long w1), .second, .val (.int N.toInt32), .val (.int cl.toInt32), .val (.int c2.toInt32), .val (.int sl.toInt32), .val (.int s2.toInt32), .val (.ref ob), .val (.int (0 : Int32)), .val (.long w1), .second] [(.int c2.toInt32), (.int s2.toInt32), (.ref ob)]))
        obtain ⟨cq14, kq14, q14a, q14b, q14c⟩ := isOf hZ (rfl : T13.heap = T13.heap) G13.1
        obtain ⟨_, _, ⟨T14, L14, k14, n14⟩, -, X14, ⟨Lc14, hQ14, l14, y14, z14⟩, st14⟩ := X13.virtualBack hx (y := (⟨"com/example/syncline/syncline/tpcc/LongColumns", "get", "(II)J"⟩ : MethodName)) (z := (⟨"com/example/syncline/syncline/tpcc/LongColumns", "get", "(II)J"⟩ : MethodName)) hown (mvT hZ (hw _ (List.mem_of_getElem? (i := 43) rfl))) (mvT hZ (hw _ (List.mem_of_getElem? (i := 44) rfl))) (notFace_of_selects (args := #[]) (mvT hZ (hw _ (List.mem_of_getElem? (i := 46) rfl)))) (mvT hZ (hw _ (List.mem_of_getElem? (i := 46) rfl))) (mvT hZ (hw _ (List.mem_of_getElem? (i := 45) rfl))) (by decide) (backOf (W := 0) (rm7 l Z a0 hw [] ob co N c2 s2 (own_U (own_U (fun _ _ => 0) c2 s2 w1) cl sl v1) T13.heap n0 sz13 G13 hN4 hc2 hs2 gco) hZ (hw _ (List.mem_of_getElem? (i := 47) rfl)) (hw _ (List.mem_of_getElem? (i := 2) rfl)) (by decide) (by decide)) q14a q14c (g := (mkF m 141 #[.val (.int a), .val (.int b), .val (.int c0), .val (.long v1), .second, .val (.long w1), .second, .val (.int N.toInt32), .val (.int cl.toInt32), .val (.int c2.toInt32), .val (.int sl.toInt32), .val (.int s2.toInt32), .val (.ref ob), .val (.int (0 : Int32)), .val (.long w1), .second] [(.int c2.toInt32), (.int s2.toInt32), (.ref ob)])) rfl (by rw [hml]; rfl) (Steps.refl _) (argsL := [(.int s2.toInt32), (.int c2.toInt32)]) (rest := []) (lenOf pd_4 rfl) rfl (by show 2 * 0 + _ ≤ _; exact Nat.le_of_eq rfl) (hb hby at_141) (fun _ _ => ⟨rfl, (rfl : T13.heap = T13.heap), (by decide : 0 + 1 + 13 + 0 ≤ _), (by decide : 0 + 6 + 6154 + 0 ≤ _)⟩)
        dsimp only [Pt.U, Pt.locs, Pt.cells, Pt.slots] at X14 l14 y14 z14 st14 hQ14
        subst l14 y14 z14
        refine own_by (fun t kk_ => st14.trans kk_) ?_
        obtain ⟨rfl, N14q, hh14⟩ := hQ14
        have N14 := Fr.app N13 N14q
        have G14 := G13
        rw [← hh14] at G14
        have sz14 : n0 ≤ T14.heap.size := Nat.le_trans gco (Nat.le_of_lt G14.2.2.2.1.lt)
        show OwnG p e below s _ _ _ (T14.setTop (mkF m 144 #[.val (.int a), .val (.int b), .val (.int c0), .val (.long v1), .second, .val (.long w1), .second, .val (.int N.toInt32), .val (.int cl.toInt32), .val (.int c2.toInt32), .val (.int sl.toInt32), .val (.int s2.toInt32), .val (.ref ob), .val (.int (0 : Int32)), .val (.long w1), .second] [(.long ((own_U (own_U (fun _ _ => 0) c2 s2 w1) cl sl v1) c2 s2))]))
        refine own_by (fun t kk_ => XS.lload X14.here hx rfl (hb hby at_144) rfl  kk_) ?_
        show OwnG p e below s _ _ _ (T14.setTop (mkF m 146 #[.val (.int a), .val (.int b), .val (.int c0), .val (.long v1), .second, .val (.long w1), .second, .val (.int N.toInt32), .val (.int cl.toInt32), .val (.int c2.toInt32), .val (.int sl.toInt32), .val (.int s2.toInt32), .val (.ref ob), .val (.int (0 : Int32)), .val (.long w1), .second] [(.long w1), (.long ((own_U (own_U (fun _ _ => 0) c2 s2 w1) cl sl v1) c2 s2))]))
        refine own_by (fun t kk_ => XS.lcmp X14.here hx rfl (hb hby at_146) rfl kk_) ?_
        show OwnG p e below s _ _ _ (T14.setTop (mkF m 147 #[.val (.int a), .val (.int b), .val (.int c0), .val (.long v1), .second, .val (.long w1), .second, .val (.int N.toInt32), .val (.int cl.toInt32), .val (.int c2.toInt32), .val (.int sl.toInt32), .val (.int s2.toInt32), .val (.ref ob), .val (.int (0 : Int32)), .val (.long w1), .second] [(.int (lcmpW ((own_U (own_U (fun _ _ => 0) c2 s2 w1) cl sl v1) c2 s2) w1))]))
        refine own_by (fun t kk_ => XS.ifNo X14.here hx rfl (hb hby at_147) rfl ((if0 _ _).trans (teq ((lw_eq _ _).mpr ((own_UM (fun q => h98 (by rw [q.1]))).trans (own_UH _ _ _ _)))).2) kk_) ?_
        show OwnG p e below s _ _ _ (T14.setTop (mkF m 150 #[.val (.int a), .val (.int b), .val (.int c0), .val (.long v1), .second, .val (.long w1), .second, .val (.int N.toInt32), .val (.int cl.toInt32), .val (.int c2.toInt32), .val (.int sl.toInt32), .val (.int s2.toInt32), .val (.ref ob), .val (.int (0 : Int32)), .val (.long w1), .second] []))
        refine own_by (fun t kk_ => XS.iconst X14.here hx rfl (hb hby at_150) kk_) ?_
        show OwnG p e below s _ _ _ (T14.setTop (mkF m 151 #[.val (.int a), .val (.int b), .val (.int c0), .val (.long v1), .second, .val (.long w1), .second, .val (.int N.toInt32), .val (.int cl.toInt32), .val (.int c2.toInt32), .val (.int sl.toInt32), .val (.int s2.toInt32), .val (.ref ob), .val (.int (0 : Int32)), .val (.long w1), .second] [(.int (1 : Int32))]))
        refine own_by (fun t kk_ => XS.goto X14.here hx rfl (pc0 := 151) (pc' := 155) rfl (hb hby at_151) (by decide) (by decide) kk_) ?_
        show OwnG p e below s _ _ _ (T14.setTop (mkF m 155 #[.val (.int a), .val (.int b), .val (.int c0), .val (.long v1), .second, .val (.long w1), .second, .val (.int N.toInt32), .val (.int cl.toInt32), .val (.int c2.toInt32), .val (.int sl.toInt32), .val (.int s2.toInt32), .val (.ref ob), .val (.int (0 : Int32)), .val (.long w1), .second] [(.int (1 : Int32))]))
        exact own_outN X14 hx hret (by simp) hlk (hb hby at_155) rfl (⟨rfl, N14⟩) (by decide) (by decide)
    · refine own_by (fun t kk_ => XS.icmpYes X10.here hx rfl (pc0 := 91) (pc' := 105) rfl (hb hby at_91) rfl (feq h91).2 (by decide) (by decide) kk_) ?_
      show OwnG p e below s _ _ _ (T10.setTop (mkF m 105 #[.val (.int a), .val (.int b), .val (.int c0), .val (.long v1), .second, .val (.long w1), .second, .val (.int N.toInt32), .val (.int cl.toInt32), .val (.int c2.toInt32), .val (.int sl.toInt32), .val (.int s2.toInt32), .val (.ref ob), .unset, .unset, .unset] []))
      refine own_by (fun t kk_ => XS.iconst X10.here hx rfl (hb hby at_105) kk_) ?_
      show OwnG p e below s _ _ _ (T10.setTop (mkF m 106 #[.val (.int a), .val (.int b), .val (.int c0), .val (.long v1), .second, .val (.long w1), .second, .val (.int N.toInt32), .val (.int cl.toInt32), .val (.int c2.toInt32), .val (.int sl.toInt32), .val (.int s2.toInt32), .val (.ref ob), .unset, .unset, .unset] [(.int (0 : Int32))]))
      refine own_by (fun t kk_ => XS.istore X10.here hx rfl (hb hby at_106) rfl (l' := #[.val (.int a), .val (.int b), .val (.int c0), .val (.long v1), .second, .val (.long w1), .second, .val (.int N.toInt32), .val (.int cl.toInt32), .val (.int c2.toInt32), .val (.int sl.toInt32), .val (.int s2.toInt32), .val (.ref ob), .val (.int (0 : Int32)), .unset, .unset]) rfl kk_) ?_
      show OwnG p e below s _ _ _ (T10.setTop (mkF m 108 #[.val (.int a), .val (.int b), .val (.int c0), .val (.long v1), .second, .val (.long w1), .second, .val (.int N.toInt32), .val (.int cl.toInt32), .val (.int c2.toInt32), .val (.int sl.toInt32), .val (.int s2.toInt32), .val (.ref ob), .val (.int (0 : Int32)), .unset, .unset] []))
      refine own_by (fun t kk_ => XS.iload X10.here hx rfl (hb hby at_108) rfl  kk_) ?_
      show OwnG p e below s _ _ _ (T10.setTop (mkF m 110 #[.val (.int a), .val (.int b), .val (.int c0), .val (.long v1), .second, .val (.long w1), .second, .val (.int N.toInt32), .val (.int cl.toInt32), .val (.int c2.toInt32), .val (.int sl.toInt32), .val (.int s2.toInt32), .val (.ref ob), .val (.int (0 : Int32)), .unset, .unset] [(.int (0 : Int32))]))
      refine own_by (fun t kk_ => XS.ifYes X10.here hx rfl (pc0 := 110) (pc' := 117) rfl (hb hby at_110) rfl ((if0 _ _).trans (teq (by decide)).1) (by decide) (by decide) kk_) ?_
      show OwnG p e below s _ _ _ (T10.setTop (mkF m 117 #[.val (.int a), .val (.int b), .val (.int c0), .val (.long v1), .second, .val (.long w1), .second, .val (.int N.toInt32), .val (.int cl.toInt32), .val (.int c2.toInt32), .val (.int sl.toInt32), .val (.int s2.toInt32), .val (.ref ob), .val (.int (0 : Int32)), .unset, .unset] []))
      refine own_by (fun t kk_ => XS.lload X10.here hx rfl (hb hby at_117) rfl  kk_) ?_
      show OwnG p e below s _ _ _ (T10.setTop (mkF m 119 #[.val (.int a), .val (.int b), .val (.int c0), .val (.long v1), .second, .val (.long w1), .second, .val (.int N.toInt32), .val (.int cl.toInt32), .val (.int c2.toInt32), .val (.int sl.toInt32), .val (.int s2.toInt32), .val (.ref ob), .val (.int (0 : Int32)), .unset, .unset] [(.long w1)]))
      refine own_by (fun t kk_ => XS.lstore X10.here hx rfl (hb hby at_119) rfl (l' := #[.val (.int a), .val (.int b), .val (.int c0), .val (.long v1), .second, .val (.long w1), .second, .val (.int N.toInt32), .val (.int cl.toInt32), .val (.int c2.toInt32), .val (.int sl.toInt32), .val (.int s2.toInt32), .val (.ref ob), .val (.int (0 : Int32)), .val (.long w1), .second]) rfl kk_) ?_
      show OwnG p e below s _ _ _ (T10.setTop (mkF m 121 #[.val (.int a), .val (.int b), .val (.int c0), .val (.long v1), .second, .val (.long w1), .second, .val (.int N.toInt32), .val (.int cl.toInt32), .val (.int c2.toInt32), .val (.int sl.toInt32), .val (.int s2.toInt32), .val (.ref ob), .val (.int (0 : Int32)), .val (.long w1), .second] []))
      refine own_by (fun t kk_ => XS.aload X10.here hx rfl (hb hby at_121) rfl rfl kk_) ?_
      show OwnG p e below s _ _ _ (T10.setTop (mkF m 123 #[.val (.int a), .val (.int b), .val (.int c0), .val (.long v1), .second, .val (.long w1), .second, .val (.int N.toInt32), .val (.int cl.toInt32), .val (.int c2.toInt32), .val (.int sl.toInt32), .val (.int s2.toInt32), .val (.ref ob), .val (.int (0 : Int32)), .val (.long w1), .second] [(.ref ob)]))
      refine own_by (fun t kk_ => XS.iload X10.here hx rfl (hb hby at_123) rfl  kk_) ?_
      show OwnG p e below s _ _ _ (T10.setTop (mkF m 125 #[.val (.int a), .val (.int b), .val (.int c0), .val (.long v1), .second, .val (.long w1), .second, .val (.int N.toInt32), .val (.int cl.toInt32), .val (.int c2.toInt32), .val (.int sl.toInt32), .val (.int s2.toInt32), .val (.ref ob), .val (.int (0 : Int32)), .val (.long w1), .second] [(.int sl.toInt32), (.ref ob)]))
      refine own_by (fun t kk_ => XS.iload X10.here hx rfl (hb hby at_125) rfl  kk_) ?_
      show OwnG p e below s _ _ _ (T10.setTop (mkF m 127 #[.val (.int a), .val (.int b), .val (.int c0), .val (.long v1), .second, .val (.long w1), .second, .val (.int N.toInt32), .val (.int cl.toInt32), .val (.int c2.toInt32), .val (.int sl.toInt32), .val (.int s2.toInt32), .val (.ref ob), .val (.int (0 : Int32)), .val (.long w1), .second] [(.int cl.toInt32), (.int sl.toInt32), (.ref ob)]))
      obtain ⟨cq15, kq15, q15a, q15b, q15c⟩ := isOf hZ (rfl : T10.heap = T10.heap) G10.1
      obtain ⟨_, _, ⟨T15, L15, k15, n15⟩, -, X15, ⟨Lc15, hQ15, l15, y15, z15⟩, st15⟩ := X10.virtualBack hx (y := (⟨"com/example/syncline/syncline/tpcc/LongColumns", "get", "(II)J"⟩ : MethodName)) (z := (⟨"com/example/syncline/syncline/tpcc/LongColumns", "get", "(II)J"⟩ : MethodName)) hown (mvT hZ (hw _ (List.mem_of_getElem? (i := 43) rfl))) (mvT hZ (hw _ (List.mem_of_getElem? (i := 44) rfl))) (notFace_of_selects (args := #[]) (mvT hZ (hw _ (List.mem_of_getElem? (i := 46) rfl)))) (mvT hZ (hw _ (List.mem_of_getElem? (i := 46) rfl))) (mvT hZ (hw _ (List.mem_of_getElem? (i := 45) rfl))) (by decide) (backOf (W := 0) (rm7 l Z a0 hw [] ob co N cl sl (own_U (own_U (fun _ _ => 0) c2 s2 w1) cl sl v1) T10.heap n0 sz10 G10 hN4 hcl hsl gco) hZ (hw _ (List.mem_of_getElem? (i := 47) rfl)) (hw _ (List.mem_of_getElem? (i := 2) rfl)) (by decide) (by decide)) q15a q15c (g := (mkF m 127 #[.val (.int a), .val (.int b), .val (.int c0), .val (.long v1), .second, .val (.long w1), .second, .val (.int N.toInt32), .val (.int cl.toInt32), .val (.int c2.toInt32), .val (.int sl.toInt32), .val (.int s2.toInt32), .val (.ref ob), .val (.int (0 : Int32)), .val (.long w1), .second] [(.int cl.toInt32), (.int sl.toInt32), (.ref ob)])) rfl (by rw [hml]; rfl) (Steps.refl _) (argsL := [(.int sl.toInt32), (.int cl.toInt32)]) (rest := []) (lenOf pd_4 rfl) rfl (by show 2 * 0 + _ ≤ _; exact Nat.le_of_eq rfl) (hb hby at_127) (fun _ _ => ⟨rfl, (rfl : T10.heap = T10.heap), (by decide : 0 + 1 + 13 + 0 ≤ _), (by decide : 0 + 6 + 6154 + 0 ≤ _)⟩)
      dsimp only [Pt.U, Pt.locs, Pt.cells, Pt.slots] at X15 l15 y15 z15 st15 hQ15
      subst l15 y15 z15
      refine own_by (fun t kk_ => st15.trans kk_) ?_
      obtain ⟨rfl, N15q, hh15⟩ := hQ15
      have N15 := Fr.app N10 N15q
      have G15 := G10
      rw [← hh15] at G15
      have sz15 : n0 ≤ T15.heap.size := Nat.le_trans gco (Nat.le_of_lt G15.2.2.2.1.lt)
      show OwnG p e below s _ _ _ (T15.setTop (mkF m 130 #[.val (.int a), .val (.int b), .val (.int c0), .val (.long v1), .second, .val (.long w1), .second, .val (.int N.toInt32), .val (.int cl.toInt32), .val (.int c2.toInt32), .val (.int sl.toInt32), .val (.int s2.toInt32), .val (.ref ob), .val (.int (0 : Int32)), .val (.long w1), .second] [(.long ((own_U (own_U (fun _ _ => 0) c2 s2 w1) cl sl v1) cl sl))]))
      refine own_by (fun t kk_ => XS.lloadN X15.here hx rfl (hb hby at_130) rfl  kk_) ?_
      show OwnG p e below s _ _ _ (T15.setTop (mkF m 131 #[.val (.int a), .val (.int b), .val (.int c0), .val (.long v1), .second, .val (.long w1), .second, .val (.int N.toInt32), .val (.int cl.toInt32), .val (.int c2.toInt32), .val (.int sl.toInt32), .val (.int s2.toInt32), .val (.ref ob), .val (.int (0 : Int32)), .val (.long w1), .second] [(.long v1), (.long ((own_U (own_U (fun _ _ => 0) c2 s2 w1) cl sl v1) cl sl))]))
      refine own_by (fun t kk_ => XS.lcmp X15.here hx rfl (hb hby at_131) rfl kk_) ?_
      show OwnG p e below s _ _ _ (T15.setTop (mkF m 132 #[.val (.int a), .val (.int b), .val (.int c0), .val (.long v1), .second, .val (.long w1), .second, .val (.int N.toInt32), .val (.int cl.toInt32), .val (.int c2.toInt32), .val (.int sl.toInt32), .val (.int s2.toInt32), .val (.ref ob), .val (.int (0 : Int32)), .val (.long w1), .second] [(.int (lcmpW ((own_U (own_U (fun _ _ => 0) c2 s2 w1) cl sl v1) cl sl) v1))]))
      refine own_by (fun t kk_ => XS.ifNo X15.here hx rfl (hb hby at_132) rfl ((if0 _ _).trans (teq ((lw_eq _ _).mpr (own_UH _ _ _ _))).2) kk_) ?_
      show OwnG p e below s _ _ _ (T15.setTop (mkF m 135 #[.val (.int a), .val (.int b), .val (.int c0), .val (.long v1), .second, .val (.long w1), .second, .val (.int N.toInt32), .val (.int cl.toInt32), .val (.int c2.toInt32), .val (.int sl.toInt32), .val (.int s2.toInt32), .val (.ref ob), .val (.int (0 : Int32)), .val (.long w1), .second] []))
      refine own_by (fun t kk_ => XS.aload X15.here hx rfl (hb hby at_135) rfl rfl kk_) ?_
      show OwnG p e below s _ _ _ (T15.setTop (mkF m 137 #[.val (.int a), .val (.int b), .val (.int c0), .val (.long v1), .second, .val (.long w1), .second, .val (.int N.toInt32), .val (.int cl.toInt32), .val (.int c2.toInt32), .val (.int sl.toInt32), .val (.int s2.toInt32), .val (.ref ob), .val (.int (0 : Int32)), .val (.long w1), .second] [(.ref ob)]))
      refine own_by (fun t kk_ => XS.iload X15.here hx rfl (hb hby at_137) rfl  kk_) ?_
      show OwnG p e below s _ _ _ (T15.setTop (mkF m 139 #[.val (.int a), .val (.int b), .val (.int c0), .val (.long v1), .second, .val (.long w1), .second, .val (.int N.toInt32), .val (.int cl.toInt32), .val (.int c2.toInt32), .val (.int sl.toInt32), .val (.int s2.toInt32), .val (.ref ob), .val (.int (0 : Int32)), .val (.long w1), .second] [(.int s2.toInt32), (.ref ob)]))
      refine own_by (fun t kk_ => XS.iload X15.here hx rfl (hb hby at_139) rfl  kk_) ?_
      show OwnG p e below s _ _ _ (T15.setTop (mkF m 141 #[.val (.int a), .val (.int b), .val (.int c0), .val (.long v1), .second, .val (.long w1), .second, .val (.int N.toInt32), .val (.int cl.toInt32), .val (.int c2.toInt32), .val (.int sl.toInt32), .val (.int s2.toInt32), .val (.ref ob), .val (.int (0 : Int32)), .val (.long w1), .second] [(.int c2.toInt32), (.int s2.toInt32), (.ref ob)]))
      obtain ⟨cq16, kq16, q16a, q16b, q16c⟩ := isOf hZ (rfl : T15.heap = T15.heap) G15.1
      obtain ⟨_, _, ⟨T16, L16, k16, n16⟩, -, X16, ⟨Lc16, hQ16, l16, y16, z16⟩, st16⟩ := X15.virtualBack hx (y := (⟨"com/example/syncline/syncline/tpcc/LongColumns", "get", "(II)J"⟩ : MethodName)) (z := (⟨"com/example/syncline/syncline/tpcc/LongColumns", "get", "(II)J"⟩ : MethodName)) hown (mvT hZ (hw _ (List.mem_of_getElem? (i := 43) rfl))) (mvT hZ (hw _ (List.mem_of_getElem? (i := 44) rfl))) (notFace_of_selects (args := #[]) (mvT hZ (hw _ (List.mem_of_getElem? (i := 46) rfl)))) (mvT hZ (hw _ (List.mem_of_getElem? (i := 46) rfl))) (mvT hZ (hw _ (List.mem_of_getElem? (i := 45) rfl))) (by decide) (backOf (W := 0) (rm7 l Z a0 hw [] ob co N c2 s2 (own_U (own_U (fun _ _ => 0) c2 s2 w1) cl sl v1) T15.heap n0 sz15 G15 hN4 hc2 hs2 gco) hZ (hw _ (List.mem_of_getElem? (i := 47) rfl)) (hw _ (List.mem_of_getElem? (i := 2) rfl)) (by decide) (by decide)) q16a q16c (g := (mkF m 141 #[.val (.int a), .val (.int b), .val (.int c0), .val (.long v1), .second, .val (.long w1), .second, .val (.int N.toInt32), .val (.int cl.toInt32), .val (.int c2.toInt32), .val (.int sl.toInt32), .val (.int s2.toInt32), .val (.ref ob), .val (.int (0 : Int32)), .val (.long w1), .second] [(.int c2.toInt32), (.int s2.toInt32), (.ref ob)])) rfl (by rw [hml]; rfl) (Steps.refl _) (argsL := [(.int s2.toInt32), (.int c2.toInt32)]) (rest := []) (lenOf pd_4 rfl) rfl (by show 2 * 0 + _ ≤ _; exact Nat.le_of_eq rfl) (hb hby at_141) (fun _ _ => ⟨rfl, (rfl : T15.heap = T15.heap), (by decide : 0 + 1 + 13 + 0 ≤ _), (by decide : 0 + 6 + 6154 + 0 ≤ _)⟩)
      dsimp only [Pt.U, Pt.locs, Pt.cells, Pt.slots] at X16 l16 y16 z16 st16 hQ16
      subst l16 y16 z16
      refine own_by (fun t kk_ => st16.trans kk_) ?_
      obtain ⟨rfl, N16q, hh16⟩ := hQ16
      have N16 := Fr.app N15 N16q
      have G16 := G15
      rw [← hh16] at G16
      have sz16 : n0 ≤ T16.heap.size := Nat.le_trans gco (Nat.le_of_lt G16.2.2.2.1.lt)
      show OwnG p e below s _ _ _ (T16.setTop (mkF m 144 #[.val (.int a), .val (.int b), .val (.int c0), .val (.long v1), .second, .val (.long w1), .second, .val (.int N.toInt32), .val (.int cl.toInt32), .val (.int c2.toInt32), .val (.int sl.toInt32), .val (.int s2.toInt32), .val (.ref ob), .val (.int (0 : Int32)), .val (.long w1), .second] [(.long ((own_U (own_U (fun _ _ => 0) c2 s2 w1) cl sl v1) c2 s2))]))
      refine own_by (fun t kk_ => XS.lload X16.here hx rfl (hb hby at_144) rfl  kk_) ?_
      show OwnG p e below s _ _ _ (T16.setTop (mkF m 146 #[.val (.int a), .val (.int b), .val (.int c0), .val (.long v1), .second, .val (.long w1), .second, .val (.int N.toInt32), .val (.int cl.toInt32), .val (.int c2.toInt32), .val (.int sl.toInt32), .val (.int s2.toInt32), .val (.ref ob), .val (.int (0 : Int32)), .val (.long w1), .second] [(.long w1), (.long ((own_U (own_U (fun _ _ => 0) c2 s2 w1) cl sl v1) c2 s2))]))
      refine own_by (fun t kk_ => XS.lcmp X16.here hx rfl (hb hby at_146) rfl kk_) ?_
      show OwnG p e below s _ _ _ (T16.setTop (mkF m 147 #[.val (.int a), .val (.int b), .val (.int c0), .val (.long v1), .second, .val (.long w1), .second, .val (.int N.toInt32), .val (.int cl.toInt32), .val (.int c2.toInt32), .val (.int sl.toInt32), .val (.int s2.toInt32), .val (.ref ob), .val (.int (0 : Int32)), .val (.long w1), .second] [(.int (lcmpW ((own_U (own_U (fun _ _ => 0) c2 s2 w1) cl sl v1) c2 s2) w1))]))
      refine own_by (fun t kk_ => XS.ifNo X16.here hx rfl (hb hby at_147) rfl ((if0 _ _).trans (teq ((lw_eq _ _).mpr ((own_UM (fun q => h91 (by rw [q.2]))).trans (own_UH _ _ _ _)))).2) kk_) ?_
      show OwnG p e below s _ _ _ (T16.setTop (mkF m 150 #[.val (.int a), .val (.int b), .val (.int c0), .val (.long v1), .second, .val (.long w1), .second, .val (.int N.toInt32), .val (.int cl.toInt32), .val (.int c2.toInt32), .val (.int sl.toInt32), .val (.int s2.toInt32), .val (.ref ob), .val (.int (0 : Int32)), .val (.long w1), .second] []))
      refine own_by (fun t kk_ => XS.iconst X16.here hx rfl (hb hby at_150) kk_) ?_
      show OwnG p e below s _ _ _ (T16.setTop (mkF m 151 #[.val (.int a), .val (.int b), .val (.int c0), .val (.long v1), .second, .val (.long w1), .second, .val (.int N.toInt32), .val (.int cl.toInt32), .val (.int c2.toInt32), .val (.int sl.toInt32), .val (.int s2.toInt32), .val (.ref ob), .val (.int (0 : Int32)), .val (.long w1), .second] [(.int (1 : Int32))]))
      refine own_by (fun t kk_ => XS.goto X16.here hx rfl (pc0 := 151) (pc' := 155) rfl (hb hby at_151) (by decide) (by decide) kk_) ?_
      show OwnG p e below s _ _ _ (T16.setTop (mkF m 155 #[.val (.int a), .val (.int b), .val (.int c0), .val (.long v1), .second, .val (.long w1), .second, .val (.int N.toInt32), .val (.int cl.toInt32), .val (.int c2.toInt32), .val (.int sl.toInt32), .val (.int s2.toInt32), .val (.ref ob), .val (.int (0 : Int32)), .val (.long w1), .second] [(.int (1 : Int32))]))
      exact own_outN X16 hx hret (by simp) hlk (hb hby at_155) rfl (⟨rfl, N16⟩) (by decide) (by decide)
  · refine own_by (fun t kk_ => XS.ifNo X0.here hx rfl (hb hby at_40) rfl ((if0 _ _).trans (feq hb40_1).1) kk_) ?_
    show OwnG p e below s _ _ _ (s₁.setTop (mkF m 43 #[.val (.int a), .val (.int b), .val (.int c0), .val (.long v1), .second, .val (.long w1), .second, .val (.int N.toInt32), .val (.int cl.toInt32), .val (.int c2.toInt32), .val (.int sl.toInt32), .unset, .unset, .unset, .unset, .unset] []))
    refine own_by (fun t kk_ => XS.iload X0.here hx rfl (hb hby at_43) rfl  kk_) ?_
    show OwnG p e below s _ _ _ (s₁.setTop (mkF m 45 #[.val (.int a), .val (.int b), .val (.int c0), .val (.long v1), .second, .val (.long w1), .second, .val (.int N.toInt32), .val (.int cl.toInt32), .val (.int c2.toInt32), .val (.int sl.toInt32), .unset, .unset, .unset, .unset, .unset] [(.int sl.toInt32)]))
    refine own_by (fun t kk_ => XS.goto X0.here hx rfl (pc0 := 45) (pc' := 53) rfl (hb hby at_45) (by decide) (by decide) kk_) ?_
    show OwnG p e below s _ _ _ (s₁.setTop (mkF m 53 #[.val (.int a), .val (.int b), .val (.int c0), .val (.long v1), .second, .val (.long w1), .second, .val (.int N.toInt32), .val (.int cl.toInt32), .val (.int c2.toInt32), .val (.int sl.toInt32), .unset, .unset, .unset, .unset, .unset] [(.int sl.toInt32)]))
    refine own_by (fun t kk_ => XS.istore X0.here hx rfl (hb hby at_53) rfl (l' := #[.val (.int a), .val (.int b), .val (.int c0), .val (.long v1), .second, .val (.long w1), .second, .val (.int N.toInt32), .val (.int cl.toInt32), .val (.int c2.toInt32), .val (.int sl.toInt32), .val (.int sl.toInt32), .unset, .unset, .unset, .unset]) rfl kk_) ?_
    show OwnG p e below s _ _ _ (s₁.setTop (mkF m 55 #[.val (.int a), .val (.int b), .val (.int c0), .val (.long v1), .second, .val (.long w1), .second, .val (.int N.toInt32), .val (.int cl.toInt32), .val (.int c2.toInt32), .val (.int sl.toInt32), .val (.int sl.toInt32), .unset, .unset, .unset, .unset] []))
    obtain ⟨T17, h17, X17, e17, E17, A17, D17, -, st17⟩ := newO X0 hx hZ hown (hw _ (List.mem_of_getElem? (i := 0) rfl)) (hw _ (List.mem_of_getElem? (i := 1) rfl)) (hw _ (List.mem_of_getElem? (i := 2) rfl)) e0 (g := (mkF m 55 #[.val (.int a), .val (.int b), .val (.int c0), .val (.long v1), .second, .val (.long w1), .second, .val (.int N.toInt32), .val (.int cl.toInt32), .val (.int c2.toInt32), .val (.int sl.toInt32), .val (.int sl.toInt32), .unset, .unset, .unset, .unset] [])) rfl (hb hby at_55) (by decide) (by decide)
    obtain ⟨ob, g17⟩ : ∃ z, z = h0.size := ⟨_, rfl⟩
    rw [← g17] at A17 D17 st17
    have gg_ob : n0 ≤ ob := by rw [g17]; exact Z0
    have sz17 : n0 ≤ h17.size := Nat.le_trans Z0 E17.1
    refine own_by (fun t kk_ => st17 _ kk_) ?_
    have f18 : Fld Z h17 ob "com/example/syncline/syncline/tpcc/LongColumns" "columnCount" "I" (.int (0 : Int32)) := D17 (Or.inr (hw _ (List.mem_of_getElem? (i := 10) rfl))) (ty := .int) (by decide)
    have f19 : Fld Z h17 ob "com/example/syncline/syncline/tpcc/LongColumns" "slots" "I" (.int (0 : Int32)) := D17 (Or.inl (hw _ (List.mem_of_getElem? (i := 16) rfl))) (ty := .int) (by decide)
    have f20 : Fld Z h17 ob "com/example/syncline/syncline/tpcc/LongColumns" "keys" "[[J" .null := D17 (Or.inl (hw _ (List.mem_of_getElem? (i := 28) rfl))) (ty := (.array (.array .long))) (by decide)
    have f21 : Fld Z h17 ob "com/example/syncline/syncline/tpcc/LongColumns" "used" "[[Z" .null := D17 (Or.inl (hw _ (List.mem_of_getElem? (i := 33) rfl))) (ty := (.array (.array .boolean))) (by decide)
    have f22 : Fld Z h17 ob "com/example/syncline/syncline/tpcc/LongColumns" "columns" "[[[J" .null := D17 (Or.inl (hw _ (List.mem_of_getElem? (i := 37) rfl))) (ty := (.array (.array (.array .long)))) (by decide)
    show OwnG p e below s _ _ _ (T17.setTop (mkF m 58 #[.val (.int a), .val (.int b), .val (.int c0), .val (.long v1), .second, .val (.long w1), .second, .val (.int N.toInt32), .val (.int cl.toInt32), .val (.int c2.toInt32), .val (.int sl.toInt32), .val (.int sl.toInt32), .unset, .unset, .unset, .unset] [(.ref ob)]))
    refine own_by (fun t kk_ => XS.dup X17.here hx rfl (hb hby at_58) rfl rfl kk_) ?_
    show OwnG p e below s _ _ _ (T17.setTop (mkF m 59 #[.val (.int a), .val (.int b), .val (.int c0), .val (.long v1), .second, .val (.long w1), .second, .val (.int N.toInt32), .val (.int cl.toInt32), .val (.int c2.toInt32), .val (.int sl.toInt32), .val (.int sl.toInt32), .unset, .unset, .unset, .unset] [(.ref ob), (.ref ob)]))
    refine own_by (fun t kk_ => XS.iload X17.here hx rfl (hb hby at_59) rfl  kk_) ?_
    show OwnG p e below s _ _ _ (T17.setTop (mkF m 61 #[.val (.int a), .val (.int b), .val (.int c0), .val (.long v1), .second, .val (.long w1), .second, .val (.int N.toInt32), .val (.int cl.toInt32), .val (.int c2.toInt32), .val (.int sl.toInt32), .val (.int sl.toInt32), .unset, .unset, .unset, .unset] [(.int N.toInt32), (.ref ob), (.ref ob)]))
    obtain ⟨_, _, ⟨T23, L23, k23, n23⟩, -, X23, ⟨Lc23, hQ23, l23, y23, z23⟩, st23⟩ := X17.specialBack hx (y := (⟨"com/example/syncline/syncline/tpcc/LongColumns", "<init>", "(I)V"⟩ : MethodName)) rfl hown (mvT hZ (hw _ (List.mem_of_getElem? (i := 3) rfl))) (mvT hZ (hw _ (List.mem_of_getElem? (i := 4) rfl))) (mvT hZ (hw _ (List.mem_of_getElem? (i := 5) rfl))) (by decide) (backOf (W := 1) (rm1 l Z a0 hw [] ob N h17 n0 sz17 A17 f18 f19 f20 f21 f22 gg_ob hN4) hZ (hw _ (List.mem_of_getElem? (i := 5) rfl)) (hw _ (List.mem_of_getElem? (i := 2) rfl)) (by decide) (by decide)) (g := (mkF m 61 #[.val (.int a), .val (.int b), .val (.int c0), .val (.long v1), .second, .val (.long w1), .second, .val (.int N.toInt32), .val (.int cl.toInt32), .val (.int c2.toInt32), .val (.int sl.toInt32), .val (.int sl.toInt32), .unset, .unset, .unset, .unset] [(.int N.toInt32), (.ref ob), (.ref ob)])) rfl (by rw [hml]; rfl) (Steps.refl _) (a := ob) (argsL := [(.int N.toInt32)]) (rest := [(.ref ob)]) (lenOf pd_2 rfl) rfl (by show 2 * 0 + _ ≤ _; exact Nat.le_of_eq rfl) (hb hby at_61) (fun _ _ => ⟨rfl, e17, (by decide : 0 + 1 + 13 ≤ _), (by decide : 0 + 6 + 6154 ≤ _)⟩)
    dsimp only [Pt.U, Pt.locs, Pt.cells, Pt.slots] at X23 l23 y23 z23 st23 hQ23
    subst l23 y23 z23
    refine own_by (fun t kk_ => st23.trans kk_) ?_
    obtain ⟨rfl, N23q, co, gco, G23⟩ := hQ23
    have N23 := Fr.app N0 N23q
    have sz23 : n0 ≤ T23.heap.size := Nat.le_trans gco (Nat.le_of_lt G23.2.2.2.1.lt)
    show OwnG p e below s _ _ _ (T23.setTop (mkF m 64 #[.val (.int a), .val (.int b), .val (.int c0), .val (.long v1), .second, .val (.long w1), .second, .val (.int N.toInt32), .val (.int cl.toInt32), .val (.int c2.toInt32), .val (.int sl.toInt32), .val (.int sl.toInt32), .unset, .unset, .unset, .unset] [(.ref ob)]))
    refine own_by (fun t kk_ => XS.astore X23.here hx rfl (hb hby at_64) rfl rfl (l' := #[.val (.int a), .val (.int b), .val (.int c0), .val (.long v1), .second, .val (.long w1), .second, .val (.int N.toInt32), .val (.int cl.toInt32), .val (.int c2.toInt32), .val (.int sl.toInt32), .val (.int sl.toInt32), .val (.ref ob), .unset, .unset, .unset]) rfl kk_) ?_
    show OwnG p e below s _ _ _ (T23.setTop (mkF m 66 #[.val (.int a), .val (.int b), .val (.int c0), .val (.long v1), .second, .val (.long w1), .second, .val (.int N.toInt32), .val (.int cl.toInt32), .val (.int c2.toInt32), .val (.int sl.toInt32), .val (.int sl.toInt32), .val (.ref ob), .unset, .unset, .unset] []))
    refine own_by (fun t kk_ => XS.aload X23.here hx rfl (hb hby at_66) rfl rfl kk_) ?_
    show OwnG p e below s _ _ _ (T23.setTop (mkF m 68 #[.val (.int a), .val (.int b), .val (.int c0), .val (.long v1), .second, .val (.long w1), .second, .val (.int N.toInt32), .val (.int cl.toInt32), .val (.int c2.toInt32), .val (.int sl.toInt32), .val (.int sl.toInt32), .val (.ref ob), .unset, .unset, .unset] [(.ref ob)]))
    refine own_by (fun t kk_ => XS.iload X23.here hx rfl (hb hby at_68) rfl  kk_) ?_
    show OwnG p e below s _ _ _ (T23.setTop (mkF m 70 #[.val (.int a), .val (.int b), .val (.int c0), .val (.long v1), .second, .val (.long w1), .second, .val (.int N.toInt32), .val (.int cl.toInt32), .val (.int c2.toInt32), .val (.int sl.toInt32), .val (.int sl.toInt32), .val (.ref ob), .unset, .unset, .unset] [(.int sl.toInt32), (.ref ob)]))
    refine own_by (fun t kk_ => XS.iload X23.here hx rfl (hb hby at_70) rfl  kk_) ?_
    show OwnG p e below s _ _ _ (T23.setTop (mkF m 72 #[.val (.int a), .val (.int b), .val (.int c0), .val (.long v1), .second, .val (.long w1), .second, .val (.int N.toInt32), .val (.int cl.toInt32), .val (.int c2.toInt32), .val (.int sl.toInt32), .val (.int sl.toInt32), .val (.ref ob), .unset, .unset, .unset] [(.int c2.toInt32), (.int sl.toInt32), (.ref ob)]))
    refine own_by (fun t kk_ => XS.lload X23.here hx rfl (hb hby at_72) rfl  kk_) ?_
    show OwnG p e below s _ _ _ (T23.setTop (mkF m 74 #[.val (.int a), .val (.int b), .val (.int c0), .val (.long v1), .second, .val (.long w1), .second, .val (.int N.toInt32), .val (.int cl.toInt32), .val (.int c2.toInt32), .val (.int sl.toInt32), .val (.int sl.toInt32), .val (.ref ob), .unset, .unset, .unset] [(.long w1), (.int c2.toInt32), (.int sl.toInt32), (.ref ob)]))
    obtain ⟨cq24, kq24, q24a, q24b, q24c⟩ := isOf hZ (rfl : T23.heap = T23.heap) G23.1
    obtain ⟨_, _, ⟨T24, L24, k24, n24⟩, -, X24, ⟨Lc24, hQ24, l24, y24, z24⟩, st24⟩ := X23.virtualBack hx (y := (⟨"com/example/syncline/syncline/tpcc/LongColumns", "set", "(IIJ)V"⟩ : MethodName)) (z := (⟨"com/example/syncline/syncline/tpcc/LongColumns", "set", "(IIJ)V"⟩ : MethodName)) hown (mvT hZ (hw _ (List.mem_of_getElem? (i := 38) rfl))) (mvT hZ (hw _ (List.mem_of_getElem? (i := 39) rfl))) (notFace_of_selects (args := #[]) (mvT hZ (hw _ (List.mem_of_getElem? (i := 41) rfl)))) (mvT hZ (hw _ (List.mem_of_getElem? (i := 41) rfl))) (mvT hZ (hw _ (List.mem_of_getElem? (i := 40) rfl))) (by decide) (backOf (W := 0) (rm6 l Z a0 hw [] ob co N c2 sl (fun _ _ => 0) w1 T23.heap n0 sz23 G23 hN4 hc2 hsl gco) hZ (hw _ (List.mem_of_getElem? (i := 42) rfl)) (hw _ (List.mem_of_getElem? (i := 2) rfl)) (by decide) (by decide)) q24a q24c (g := (mkF m 74 #[.val (.int a), .val (.int b), .val (.int c0), .val (.long v1), .second, .val (.long w1), .second, .val (.int N.toInt32), .val (.int cl.toInt32), .val (.int c2.toInt32), .val (.int sl.toInt32), .val (.int sl.toInt32), .val (.ref ob), .unset, .unset, .unset] [(.long w1), (.int c2.toInt32), (.int sl.toInt32), (.ref ob)])) rfl (by rw [hml]; rfl) (Steps.refl _) (argsL := [(.int sl.toInt32), (.int c2.toInt32), (.long w1)]) (rest := []) (lenOf pd_3 rfl) rfl (by show 2 * 0 + _ ≤ _; exact Nat.le_of_eq rfl) (hb hby at_74) (fun _ _ => ⟨rfl, (rfl : T23.heap = T23.heap), (by decide : 0 + 1 + 13 + 0 ≤ _), (by decide : 0 + 6 + 6154 + 0 ≤ _)⟩)
    dsimp only [Pt.U, Pt.locs, Pt.cells, Pt.slots] at X24 l24 y24 z24 st24 hQ24
    subst l24 y24 z24
    refine own_by (fun t kk_ => st24.trans kk_) ?_
    obtain ⟨rfl, N24q, G24⟩ := hQ24
    have N24 := Fr.app N23 N24q
    have sz24 : n0 ≤ T24.heap.size := Nat.le_trans gco (Nat.le_of_lt G24.2.2.2.1.lt)
    show OwnG p e below s _ _ _ (T24.setTop (mkF m 77 #[.val (.int a), .val (.int b), .val (.int c0), .val (.long v1), .second, .val (.long w1), .second, .val (.int N.toInt32), .val (.int cl.toInt32), .val (.int c2.toInt32), .val (.int sl.toInt32), .val (.int sl.toInt32), .val (.ref ob), .unset, .unset, .unset] []))
    refine own_by (fun t kk_ => XS.aload X24.here hx rfl (hb hby at_77) rfl rfl kk_) ?_
    show OwnG p e below s _ _ _ (T24.setTop (mkF m 79 #[.val (.int a), .val (.int b), .val (.int c0), .val (.long v1), .second, .val (.long w1), .second, .val (.int N.toInt32), .val (.int cl.toInt32), .val (.int c2.toInt32), .val (.int sl.toInt32), .val (.int sl.toInt32), .val (.ref ob), .unset, .unset, .unset] [(.ref ob)]))
    refine own_by (fun t kk_ => XS.iload X24.here hx rfl (hb hby at_79) rfl  kk_) ?_
    show OwnG p e below s _ _ _ (T24.setTop (mkF m 81 #[.val (.int a), .val (.int b), .val (.int c0), .val (.long v1), .second, .val (.long w1), .second, .val (.int N.toInt32), .val (.int cl.toInt32), .val (.int c2.toInt32), .val (.int sl.toInt32), .val (.int sl.toInt32), .val (.ref ob), .unset, .unset, .unset] [(.int sl.toInt32), (.ref ob)]))
    refine own_by (fun t kk_ => XS.iload X24.here hx rfl (hb hby at_81) rfl  kk_) ?_
    show OwnG p e below s _ _ _ (T24.setTop (mkF m 83 #[.val (.int a), .val (.int b), .val (.int c0), .val (.long v1), .second, .val (.long w1), .second, .val (.int N.toInt32), .val (.int cl.toInt32), .val (.int c2.toInt32), .val (.int sl.toInt32), .val (.int sl.toInt32), .val (.ref ob), .unset, .unset, .unset] [(.int cl.toInt32), (.int sl.toInt32), (.ref ob)]))
    refine own_by (fun t kk_ => XS.lloadN X24.here hx rfl (hb hby at_83) rfl  kk_) ?_
    show OwnG p e below s _ _ _ (T24.setTop (mkF m 84 #[.val (.int a), .val (.int b), .val (.int c0), .val (.long v1), .second, .val (.long w1), .second, .val (.int N.toInt32), .val (.int cl.toInt32), .val (.int c2.toInt32), .val (.int sl.toInt32), .val (.int sl.toInt32), .val (.ref ob), .unset, .unset, .unset] [(.long v1), (.int cl.toInt32), (.int sl.toInt32), (.ref ob)]))
    obtain ⟨cq25, kq25, q25a, q25b, q25c⟩ := isOf hZ (rfl : T24.heap = T24.heap) G24.1
    obtain ⟨_, _, ⟨T25, L25, k25, n25⟩, -, X25, ⟨Lc25, hQ25, l25, y25, z25⟩, st25⟩ := X24.virtualBack hx (y := (⟨"com/example/syncline/syncline/tpcc/LongColumns", "set", "(IIJ)V"⟩ : MethodName)) (z := (⟨"com/example/syncline/syncline/tpcc/LongColumns", "set", "(IIJ)V"⟩ : MethodName)) hown (mvT hZ (hw _ (List.mem_of_getElem? (i := 38) rfl))) (mvT hZ (hw _ (List.mem_of_getElem? (i := 39) rfl))) (notFace_of_selects (args := #[]) (mvT hZ (hw _ (List.mem_of_getElem? (i := 41) rfl)))) (mvT hZ (hw _ (List.mem_of_getElem? (i := 41) rfl))) (mvT hZ (hw _ (List.mem_of_getElem? (i := 40) rfl))) (by decide) (backOf (W := 0) (rm6 l Z a0 hw [] ob co N cl sl (own_U (fun _ _ => 0) c2 sl w1) v1 T24.heap n0 sz24 G24 hN4 hcl hsl gco) hZ (hw _ (List.mem_of_getElem? (i := 42) rfl)) (hw _ (List.mem_of_getElem? (i := 2) rfl)) (by decide) (by decide)) q25a q25c (g := (mkF m 84 #[.val (.int a), .val (.int b), .val (.int c0), .val (.long v1), .second, .val (.long w1), .second, .val (.int N.toInt32), .val (.int cl.toInt32), .val (.int c2.toInt32), .val (.int sl.toInt32), .val (.int sl.toInt32), .val (.ref ob), .unset, .unset, .unset] [(.long v1), (.int cl.toInt32), (.int sl.toInt32), (.ref ob)])) rfl (by rw [hml]; rfl) (Steps.refl _) (argsL := [(.int sl.toInt32), (.int cl.toInt32), (.long v1)]) (rest := []) (lenOf pd_3 rfl) rfl (by show 2 * 0 + _ ≤ _; exact Nat.le_of_eq rfl) (hb hby at_84) (fun _ _ => ⟨rfl, (rfl : T24.heap = T24.heap), (by decide : 0 + 1 + 13 + 0 ≤ _), (by decide : 0 + 6 + 6154 + 0 ≤ _)⟩)
    dsimp only [Pt.U, Pt.locs, Pt.cells, Pt.slots] at X25 l25 y25 z25 st25 hQ25
    subst l25 y25 z25
    refine own_by (fun t kk_ => st25.trans kk_) ?_
    obtain ⟨rfl, N25q, G25⟩ := hQ25
    have N25 := Fr.app N24 N25q
    have sz25 : n0 ≤ T25.heap.size := Nat.le_trans gco (Nat.le_of_lt G25.2.2.2.1.lt)
    show OwnG p e below s _ _ _ (T25.setTop (mkF m 87 #[.val (.int a), .val (.int b), .val (.int c0), .val (.long v1), .second, .val (.long w1), .second, .val (.int N.toInt32), .val (.int cl.toInt32), .val (.int c2.toInt32), .val (.int sl.toInt32), .val (.int sl.toInt32), .val (.ref ob), .unset, .unset, .unset] []))
    refine own_by (fun t kk_ => XS.iload X25.here hx rfl (hb hby at_87) rfl  kk_) ?_
    show OwnG p e below s _ _ _ (T25.setTop (mkF m 89 #[.val (.int a), .val (.int b), .val (.int c0), .val (.long v1), .second, .val (.long w1), .second, .val (.int N.toInt32), .val (.int cl.toInt32), .val (.int c2.toInt32), .val (.int sl.toInt32), .val (.int sl.toInt32), .val (.ref ob), .unset, .unset, .unset] [(.int sl.toInt32)]))
    refine own_by (fun t kk_ => XS.iload X25.here hx rfl (hb hby at_89) rfl  kk_) ?_
    show OwnG p e below s _ _ _ (T25.setTop (mkF m 91 #[.val (.int a), .val (.int b), .val (.int c0), .val (.long v1), .second, .val (.long w1), .second, .val (.int N.toInt32), .val (.int cl.toInt32), .val (.int c2.toInt32), .val (.int sl.toInt32), .val (.int sl.toInt32), .val (.ref ob), .unset, .unset, .unset] [(.int sl.toInt32), (.int sl.toInt32)]))
    refine own_by (fun t kk_ => XS.icmpNo X25.here hx rfl (hb hby at_91) rfl (teq rfl).2 kk_) ?_
    show OwnG p e below s _ _ _ (T25.setTop (mkF m 94 #[.val (.int a), .val (.int b), .val (.int c0), .val (.long v1), .second, .val (.long w1), .second, .val (.int N.toInt32), .val (.int cl.toInt32), .val (.int c2.toInt32), .val (.int sl.toInt32), .val (.int sl.toInt32), .val (.ref ob), .unset, .unset, .unset] []))
    refine own_by (fun t kk_ => XS.iload X25.here hx rfl (hb hby at_94) rfl  kk_) ?_
    show OwnG p e below s _ _ _ (T25.setTop (mkF m 96 #[.val (.int a), .val (.int b), .val (.int c0), .val (.long v1), .second, .val (.long w1), .second, .val (.int N.toInt32), .val (.int cl.toInt32), .val (.int c2.toInt32), .val (.int sl.toInt32), .val (.int sl.toInt32), .val (.ref ob), .unset, .unset, .unset] [(.int cl.toInt32)]))
    refine own_by (fun t kk_ => XS.iload X25.here hx rfl (hb hby at_96) rfl  kk_) ?_
    show OwnG p e below s _ _ _ (T25.setTop (mkF m 98 #[.val (.int a), .val (.int b), .val (.int c0), .val (.long v1), .second, .val (.long w1), .second, .val (.int N.toInt32), .val (.int cl.toInt32), .val (.int c2.toInt32), .val (.int sl.toInt32), .val (.int sl.toInt32), .val (.ref ob), .unset, .unset, .unset] [(.int c2.toInt32), (.int cl.toInt32)]))
    by_cases h98 : cl.toInt32 = c2.toInt32
    · refine own_by (fun t kk_ => XS.icmpNo X25.here hx rfl (hb hby at_98) rfl (teq h98).2 kk_) ?_
      show OwnG p e below s _ _ _ (T25.setTop (mkF m 101 #[.val (.int a), .val (.int b), .val (.int c0), .val (.long v1), .second, .val (.long w1), .second, .val (.int N.toInt32), .val (.int cl.toInt32), .val (.int c2.toInt32), .val (.int sl.toInt32), .val (.int sl.toInt32), .val (.ref ob), .unset, .unset, .unset] []))
      refine own_by (fun t kk_ => XS.iconst X25.here hx rfl (hb hby at_101) kk_) ?_
      show OwnG p e below s _ _ _ (T25.setTop (mkF m 102 #[.val (.int a), .val (.int b), .val (.int c0), .val (.long v1), .second, .val (.long w1), .second, .val (.int N.toInt32), .val (.int cl.toInt32), .val (.int c2.toInt32), .val (.int sl.toInt32), .val (.int sl.toInt32), .val (.ref ob), .unset, .unset, .unset] [(.int (1 : Int32))]))
      refine own_by (fun t kk_ => XS.goto X25.here hx rfl (pc0 := 102) (pc' := 106) rfl (hb hby at_102) (by decide) (by decide) kk_) ?_
      show OwnG p e below s _ _ _ (T25.setTop (mkF m 106 #[.val (.int a), .val (.int b), .val (.int c0), .val (.long v1), .second, .val (.long w1), .second, .val (.int N.toInt32), .val (.int cl.toInt32), .val (.int c2.toInt32), .val (.int sl.toInt32), .val (.int sl.toInt32), .val (.ref ob), .unset, .unset, .unset] [(.int (1 : Int32))]))
      refine own_by (fun t kk_ => XS.istore X25.here hx rfl (hb hby at_106) rfl (l' := #[.val (.int a), .val (.int b), .val (.int c0), .val (.long v1), .second, .val (.long w1), .second, .val (.int N.toInt32), .val (.int cl.toInt32), .val (.int c2.toInt32), .val (.int sl.toInt32), .val (.int sl.toInt32), .val (.ref ob), .val (.int (1 : Int32)), .unset, .unset]) rfl kk_) ?_
      show OwnG p e below s _ _ _ (T25.setTop (mkF m 108 #[.val (.int a), .val (.int b), .val (.int c0), .val (.long v1), .second, .val (.long w1), .second, .val (.int N.toInt32), .val (.int cl.toInt32), .val (.int c2.toInt32), .val (.int sl.toInt32), .val (.int sl.toInt32), .val (.ref ob), .val (.int (1 : Int32)), .unset, .unset] []))
      refine own_by (fun t kk_ => XS.iload X25.here hx rfl (hb hby at_108) rfl  kk_) ?_
      show OwnG p e below s _ _ _ (T25.setTop (mkF m 110 #[.val (.int a), .val (.int b), .val (.int c0), .val (.long v1), .second, .val (.long w1), .second, .val (.int N.toInt32), .val (.int cl.toInt32), .val (.int c2.toInt32), .val (.int sl.toInt32), .val (.int sl.toInt32), .val (.ref ob), .val (.int (1 : Int32)), .unset, .unset] [(.int (1 : Int32))]))
      refine own_by (fun t kk_ => XS.ifNo X25.here hx rfl (hb hby at_110) rfl ((if0 _ _).trans (feq (by decide)).1) kk_) ?_
      show OwnG p e below s _ _ _ (T25.setTop (mkF m 113 #[.val (.int a), .val (.int b), .val (.int c0), .val (.long v1), .second, .val (.long w1), .second, .val (.int N.toInt32), .val (.int cl.toInt32), .val (.int c2.toInt32), .val (.int sl.toInt32), .val (.int sl.toInt32), .val (.ref ob), .val (.int (1 : Int32)), .unset, .unset] []))
      refine own_by (fun t kk_ => XS.lloadN X25.here hx rfl (hb hby at_113) rfl  kk_) ?_
      show OwnG p e below s _ _ _ (T25.setTop (mkF m 114 #[.val (.int a), .val (.int b), .val (.int c0), .val (.long v1), .second, .val (.long w1), .second, .val (.int N.toInt32), .val (.int cl.toInt32), .val (.int c2.toInt32), .val (.int sl.toInt32), .val (.int sl.toInt32), .val (.ref ob), .val (.int (1 : Int32)), .unset, .unset] [(.long v1)]))
      refine own_by (fun t kk_ => XS.goto X25.here hx rfl (pc0 := 114) (pc' := 119) rfl (hb hby at_114) (by decide) (by decide) kk_) ?_
      show OwnG p e below s _ _ _ (T25.setTop (mkF m 119 #[.val (.int a), .val (.int b), .val (.int c0), .val (.long v1), .second, .val (.long w1), .second, .val (.int N.toInt32), .val (.int cl.toInt32), .val (.int c2.toInt32), .val (.int sl.toInt32), .val (.int sl.toInt32), .val (.ref ob), .val (.int (1 : Int32)), .unset, .unset] [(.long v1)]))
      refine own_by (fun t kk_ => XS.lstore X25.here hx rfl (hb hby at_119) rfl (l' := #[.val (.int a), .val (.int b), .val (.int c0), .val (.long v1), .second, .val (.long w1), .second, .val (.int N.toInt32), .val (.int cl.toInt32), .val (.int c2.toInt32), .val (.int sl.toInt32), .val (.int sl.toInt32), .val (.ref ob), .val (.int (1 : Int32)), .val (.long v1), .second]) rfl kk_) ?_
      show OwnG p e below s _ _ _ (T25.setTop (mkF m 121 #[.val (.int a), .val (.int b), .val (.int c0), .val (.long v1), .second, .val (.long w1), .second, .val (.int N.toInt32), .val (.int cl.toInt32), .val (.int c2.toInt32), .val (.int sl.toInt32), .val (.int sl.toInt32), .val (.ref ob), .val (.int (1 : Int32)), .val (.long v1), .second] []))
      refine own_by (fun t kk_ => XS.aload X25.here hx rfl (hb hby at_121) rfl rfl kk_) ?_
      show OwnG p e below s _ _ _ (T25.setTop (mkF m 123 #[.val (.int a), .val (.int b), .val (.int c0), .val (.long v1), .second, .val (.long w1), .second, .val (.int N.toInt32), .val (.int cl.toInt32), .val (.int c2.toInt32), .val (.int sl.toInt32), .val (.int sl.toInt32), .val (.ref ob), .val (.int (1 : Int32)), .val (.long v1), .second] [(.ref ob)]))
      refine own_by (fun t kk_ => XS.iload X25.here hx rfl (hb hby at_123) rfl  kk_) ?_
      show OwnG p e below s _ _ _ (T25.setTop (mkF m 125 #[.val (.int a), .val (.int b), .val (.int c0), .val (.long v1), .second, .val (.long w1), .second, .val (.int N.toInt32), .val (.int cl.toInt32), .val (.int c2.toInt32), .val (.int sl.toInt32), .val (.int sl.toInt32), .val (.ref ob), .val (.int (1 : Int32)), .val (.long v1), .second] [(.int sl.toInt32), (.ref ob)]))
      refine own_by (fun t kk_ => XS.iload X25.here hx rfl (hb hby at_125) rfl  kk_) ?_
      show OwnG p e below s _ _ _ (T25.setTop (mkF m 127 #[.val (.int a), .val (.int b), .val (.int c0), .val (.long v1), .second, .val (.long w1), .second, .val (.int N.toInt32), .val (.int cl.toInt32), .val (.int c2.toInt32), .val (.int sl.toInt32), .val (.int sl.toInt32), .val (.ref ob), .val (.int (1 : Int32)), .val (.long v1), .second] [(.int cl.toInt32), (.int sl.toInt32), (.ref ob)]))
      obtain ⟨cq26, kq26, q26a, q26b, q26c⟩ := isOf hZ (rfl : T25.heap = T25.heap) G25.1
      obtain ⟨_, _, ⟨T26, L26, k26, n26⟩, -, X26, ⟨Lc26, hQ26, l26, y26, z26⟩, st26⟩ := X25.virtualBack hx (y := (⟨"com/example/syncline/syncline/tpcc/LongColumns", "get", "(II)J"⟩ : MethodName)) (z := (⟨"com/example/syncline/syncline/tpcc/LongColumns", "get", "(II)J"⟩ : MethodName)) hown (mvT hZ (hw _ (List.mem_of_getElem? (i := 43) rfl))) (mvT hZ (hw _ (List.mem_of_getElem? (i := 44) rfl))) (notFace_of_selects (args := #[]) (mvT hZ (hw _ (List.mem_of_getElem? (i := 46) rfl)))) (mvT hZ (hw _ (List.mem_of_getElem? (i := 46) rfl))) (mvT hZ (hw _ (List.mem_of_getElem? (i := 45) rfl))) (by decide) (backOf (W := 0) (rm7 l Z a0 hw [] ob co N cl sl (own_U (own_U (fun _ _ => 0) c2 sl w1) cl sl v1) T25.heap n0 sz25 G25 hN4 hcl hsl gco) hZ (hw _ (List.mem_of_getElem? (i := 47) rfl)) (hw _ (List.mem_of_getElem? (i := 2) rfl)) (by decide) (by decide)) q26a q26c (g := (mkF m 127 #[.val (.int a), .val (.int b), .val (.int c0), .val (.long v1), .second, .val (.long w1), .second, .val (.int N.toInt32), .val (.int cl.toInt32), .val (.int c2.toInt32), .val (.int sl.toInt32), .val (.int sl.toInt32), .val (.ref ob), .val (.int (1 : Int32)), .val (.long v1), .second] [(.int cl.toInt32), (.int sl.toInt32), (.ref ob)])) rfl (by rw [hml]; rfl) (Steps.refl _) (argsL := [(.int sl.toInt32), (.int cl.toInt32)]) (rest := []) (lenOf pd_4 rfl) rfl (by show 2 * 0 + _ ≤ _; exact Nat.le_of_eq rfl) (hb hby at_127) (fun _ _ => ⟨rfl, (rfl : T25.heap = T25.heap), (by decide : 0 + 1 + 13 + 0 ≤ _), (by decide : 0 + 6 + 6154 + 0 ≤ _)⟩)
      dsimp only [Pt.U, Pt.locs, Pt.cells, Pt.slots] at X26 l26 y26 z26 st26 hQ26
      subst l26 y26 z26
      refine own_by (fun t kk_ => st26.trans kk_) ?_
      obtain ⟨rfl, N26q, hh26⟩ := hQ26
      have N26 := Fr.app N25 N26q
      have G26 := G25
      rw [← hh26] at G26
      have sz26 : n0 ≤ T26.heap.size := Nat.le_trans gco (Nat.le_of_lt G26.2.2.2.1.lt)
      show OwnG p e below s _ _ _ (T26.setTop (mkF m 130 #[.val (.int a), .val (.int b), .val (.int c0), .val (.long v1), .second, .val (.long w1), .second, .val (.int N.toInt32), .val (.int cl.toInt32), .val (.int c2.toInt32), .val (.int sl.toInt32), .val (.int sl.toInt32), .val (.ref ob), .val (.int (1 : Int32)), .val (.long v1), .second] [(.long ((own_U (own_U (fun _ _ => 0) c2 sl w1) cl sl v1) cl sl))]))
      refine own_by (fun t kk_ => XS.lloadN X26.here hx rfl (hb hby at_130) rfl  kk_) ?_
      show OwnG p e below s _ _ _ (T26.setTop (mkF m 131 #[.val (.int a), .val (.int b), .val (.int c0), .val (.long v1), .second, .val (.long w1), .second, .val (.int N.toInt32), .val (.int cl.toInt32), .val (.int c2.toInt32), .val (.int sl.toInt32), .val (.int sl.toInt32), .val (.ref ob), .val (.int (1 : Int32)), .val (.long v1), .second] [(.long v1), (.long ((own_U (own_U (fun _ _ => 0) c2 sl w1) cl sl v1) cl sl))]))
      refine own_by (fun t kk_ => XS.lcmp X26.here hx rfl (hb hby at_131) rfl kk_) ?_
      show OwnG p e below s _ _ _ (T26.setTop (mkF m 132 #[.val (.int a), .val (.int b), .val (.int c0), .val (.long v1), .second, .val (.long w1), .second, .val (.int N.toInt32), .val (.int cl.toInt32), .val (.int c2.toInt32), .val (.int sl.toInt32), .val (.int sl.toInt32), .val (.ref ob), .val (.int (1 : Int32)), .val (.long v1), .second] [(.int (lcmpW ((own_U (own_U (fun _ _ => 0) c2 sl w1) cl sl v1) cl sl) v1))]))
      refine own_by (fun t kk_ => XS.ifNo X26.here hx rfl (hb hby at_132) rfl ((if0 _ _).trans (teq ((lw_eq _ _).mpr (own_UH _ _ _ _))).2) kk_) ?_
      show OwnG p e below s _ _ _ (T26.setTop (mkF m 135 #[.val (.int a), .val (.int b), .val (.int c0), .val (.long v1), .second, .val (.long w1), .second, .val (.int N.toInt32), .val (.int cl.toInt32), .val (.int c2.toInt32), .val (.int sl.toInt32), .val (.int sl.toInt32), .val (.ref ob), .val (.int (1 : Int32)), .val (.long v1), .second] []))
      refine own_by (fun t kk_ => XS.aload X26.here hx rfl (hb hby at_135) rfl rfl kk_) ?_
      show OwnG p e below s _ _ _ (T26.setTop (mkF m 137 #[.val (.int a), .val (.int b), .val (.int c0), .val (.long v1), .second, .val (.long w1), .second, .val (.int N.toInt32), .val (.int cl.toInt32), .val (.int c2.toInt32), .val (.int sl.toInt32), .val (.int sl.toInt32), .val (.ref ob), .val (.int (1 : Int32)), .val (.long v1), .second] [(.ref ob)]))
      refine own_by (fun t kk_ => XS.iload X26.here hx rfl (hb hby at_137) rfl  kk_) ?_
      show OwnG p e below s _ _ _ (T26.setTop (mkF m 139 #[.val (.int a), .val (.int b), .val (.int c0), .val (.long v1), .second, .val (.long w1), .second, .val (.int N.toInt32), .val (.int cl.toInt32), .val (.int c2.toInt32), .val (.int sl.toInt32), .val (.int sl.toInt32), .val (.ref ob), .val (.int (1 : Int32)), .val (.long v1), .second] [(.int sl.toInt32), (.ref ob)]))
      refine own_by (fun t kk_ => XS.iload X26.here hx rfl (hb hby at_139) rfl  kk_) ?_
      show OwnG p e below s _ _ _ (T26.setTop (mkF m 141 #[.val (.int a), .val (.int b), .val (.int c0), .val (.long v1), .second, .val (.long w1), .second, .val (.int N.toInt32), .val (.int cl.toInt32), .val (.int c2.toInt32), .val (.int sl.toInt32), .val (.int sl.toInt32), .val (.ref ob), .val (.int (1 : Int32)), .val (.long v1), .second] [(.int c2.toInt32), (.int sl.toInt32), (.ref ob)]))
      obtain ⟨cq27, kq27, q27a, q27b, q27c⟩ := isOf hZ (rfl : T26.heap = T26.heap) G26.1
      obtain ⟨_, _, ⟨T27, L27, k27, n27⟩, -, X27, ⟨Lc27, hQ27, l27, y27, z27⟩, st27⟩ := X26.virtualBack hx (y := (⟨"com/example/syncline/syncline/tpcc/LongColumns", "get", "(II)J"⟩ : MethodName)) (z := (⟨"com/example/syncline/syncline/tpcc/LongColumns", "get", "(II)J"⟩ : MethodName)) hown (mvT hZ (hw _ (List.mem_of_getElem? (i := 43) rfl))) (mvT hZ (hw _ (List.mem_of_getElem? (i := 44) rfl))) (notFace_of_selects (args := #[]) (mvT hZ (hw _ (List.mem_of_getElem? (i := 46) rfl)))) (mvT hZ (hw _ (List.mem_of_getElem? (i := 46) rfl))) (mvT hZ (hw _ (List.mem_of_getElem? (i := 45) rfl))) (by decide) (backOf (W := 0) (rm7 l Z a0 hw [] ob co N c2 sl (own_U (own_U (fun _ _ => 0) c2 sl w1) cl sl v1) T26.heap n0 sz26 G26 hN4 hc2 hsl gco) hZ (hw _ (List.mem_of_getElem? (i := 47) rfl)) (hw _ (List.mem_of_getElem? (i := 2) rfl)) (by decide) (by decide)) q27a q27c (g := (mkF m 141 #[.val (.int a), .val (.int b), .val (.int c0), .val (.long v1), .second, .val (.long w1), .second, .val (.int N.toInt32), .val (.int cl.toInt32), .val (.int c2.toInt32), .val (.int sl.toInt32), .val (.int sl.toInt32), .val (.ref ob), .val (.int (1 : Int32)), .val (.long v1), .second] [(.int c2.toInt32), (.int sl.toInt32), (.ref ob)])) rfl (by rw [hml]; rfl) (Steps.refl _) (argsL := [(.int sl.toInt32), (.int c2.toInt32)]) (rest := []) (lenOf pd_4 rfl) rfl (by show 2 * 0 + _ ≤ _; exact Nat.le_of_eq rfl) (hb hby at_141) (fun _ _ => ⟨rfl, (rfl : T26.heap = T26.heap), (by decide : 0 + 1 + 13 + 0 ≤ _), (by decide : 0 + 6 + 6154 + 0 ≤ _)⟩)
      dsimp only [Pt.U, Pt.locs, Pt.cells, Pt.slots] at X27 l27 y27 z27 st27 hQ27
      subst l27 y27 z27
      refine own_by (fun t kk_ => st27.trans kk_) ?_
      obtain ⟨rfl, N27q, hh27⟩ := hQ27
      have N27 := Fr.app N26 N27q
      have G27 := G26
      rw [← hh27] at G27
      have sz27 : n0 ≤ T27.heap.size := Nat.le_trans gco (Nat.le_of_lt G27.2.2.2.1.lt)
      show OwnG p e below s _ _ _ (T27.setTop (mkF m 144 #[.val (.int a), .val (.int b), .val (.int c0), .val (.long v1), .second, .val (.long w1), .second, .val (.int N.toInt32), .val (.int cl.toInt32), .val (.int c2.toInt32), .val (.int sl.toInt32), .val (.int sl.toInt32), .val (.ref ob), .val (.int (1 : Int32)), .val (.long v1), .second] [(.long ((own_U (own_U (fun _ _ => 0) c2 sl w1) cl sl v1) c2 sl))]))
      refine own_by (fun t kk_ => XS.lload X27.here hx rfl (hb hby at_144) rfl  kk_) ?_
      show OwnG p e below s _ _ _ (T27.setTop (mkF m 146 #[.val (.int a), .val (.int b), .val (.int c0), .val (.long v1), .second, .val (.long w1), .second, .val (.int N.toInt32), .val (.int cl.toInt32), .val (.int c2.toInt32), .val (.int sl.toInt32), .val (.int sl.toInt32), .val (.ref ob), .val (.int (1 : Int32)), .val (.long v1), .second] [(.long v1), (.long ((own_U (own_U (fun _ _ => 0) c2 sl w1) cl sl v1) c2 sl))]))
      refine own_by (fun t kk_ => XS.lcmp X27.here hx rfl (hb hby at_146) rfl kk_) ?_
      show OwnG p e below s _ _ _ (T27.setTop (mkF m 147 #[.val (.int a), .val (.int b), .val (.int c0), .val (.long v1), .second, .val (.long w1), .second, .val (.int N.toInt32), .val (.int cl.toInt32), .val (.int c2.toInt32), .val (.int sl.toInt32), .val (.int sl.toInt32), .val (.ref ob), .val (.int (1 : Int32)), .val (.long v1), .second] [(.int (lcmpW ((own_U (own_U (fun _ _ => 0) c2 sl w1) cl sl v1) c2 sl) v1))]))
      refine own_by (fun t kk_ => XS.ifNo X27.here hx rfl (hb hby at_147) rfl ((if0 _ _).trans (teq ((lw_eq _ _).mpr (by obtain rfl := own_inj (by omega) (by omega) h98; exact own_UH _ _ _ _))).2) kk_) ?_
      show OwnG p e below s _ _ _ (T27.setTop (mkF m 150 #[.val (.int a), .val (.int b), .val (.int c0), .val (.long v1), .second, .val (.long w1), .second, .val (.int N.toInt32), .val (.int cl.toInt32), .val (.int c2.toInt32), .val (.int sl.toInt32), .val (.int sl.toInt32), .val (.ref ob), .val (.int (1 : Int32)), .val (.long v1), .second] []))
      refine own_by (fun t kk_ => XS.iconst X27.here hx rfl (hb hby at_150) kk_) ?_
      show OwnG p e below s _ _ _ (T27.setTop (mkF m 151 #[.val (.int a), .val (.int b), .val (.int c0), .val (.long v1), .second, .val (.long w1), .second, .val (.int N.toInt32), .val (.int cl.toInt32), .val (.int c2.toInt32), .val (.int sl.toInt32), .val (.int sl.toInt32), .val (.ref ob), .val (.int (1 : Int32)), .val (.long v1), .second] [(.int (1 : Int32))]))
      refine own_by (fun t kk_ => XS.goto X27.here hx rfl (pc0 := 151) (pc' := 155) rfl (hb hby at_151) (by decide) (by decide) kk_) ?_
      show OwnG p e below s _ _ _ (T27.setTop (mkF m 155 #[.val (.int a), .val (.int b), .val (.int c0), .val (.long v1), .second, .val (.long w1), .second, .val (.int N.toInt32), .val (.int cl.toInt32), .val (.int c2.toInt32), .val (.int sl.toInt32), .val (.int sl.toInt32), .val (.ref ob), .val (.int (1 : Int32)), .val (.long v1), .second] [(.int (1 : Int32))]))
      exact own_outN X27 hx hret (by simp) hlk (hb hby at_155) rfl (⟨rfl, N27⟩) (by decide) (by decide)
    · refine own_by (fun t kk_ => XS.icmpYes X25.here hx rfl (pc0 := 98) (pc' := 105) rfl (hb hby at_98) rfl (feq h98).2 (by decide) (by decide) kk_) ?_
      show OwnG p e below s _ _ _ (T25.setTop (mkF m 105 #[.val (.int a), .val (.int b), .val (.int c0), .val (.long v1), .second, .val (.long w1), .second, .val (.int N.toInt32), .val (.int cl.toInt32), .val (.int c2.toInt32), .val (.int sl.toInt32), .val (.int sl.toInt32), .val (.ref ob), .unset, .unset, .unset] []))
      refine own_by (fun t kk_ => XS.iconst X25.here hx rfl (hb hby at_105) kk_) ?_
      show OwnG p e below s _ _ _ (T25.setTop (mkF m 106 #[.val (.int a), .val (.int b), .val (.int c0), .val (.long v1), .second, .val (.long w1), .second, .val (.int N.toInt32), .val (.int cl.toInt32), .val (.int c2.toInt32), .val (.int sl.toInt32), .val (.int sl.toInt32), .val (.ref ob), .unset, .unset, .unset] [(.int (0 : Int32))]))
      refine own_by (fun t kk_ => XS.istore X25.here hx rfl (hb hby at_106) rfl (l' := #[.val (.int a), .val (.int b), .val (.int c0), .val (.long v1), .second, .val (.long w1), .second, .val (.int N.toInt32), .val (.int cl.toInt32), .val (.int c2.toInt32), .val (.int sl.toInt32), .val (.int sl.toInt32), .val (.ref ob), .val (.int (0 : Int32)), .unset, .unset]) rfl kk_) ?_
      show OwnG p e below s _ _ _ (T25.setTop (mkF m 108 #[.val (.int a), .val (.int b), .val (.int c0), .val (.long v1), .second, .val (.long w1), .second, .val (.int N.toInt32), .val (.int cl.toInt32), .val (.int c2.toInt32), .val (.int sl.toInt32), .val (.int sl.toInt32), .val (.ref ob), .val (.int (0 : Int32)), .unset, .unset] []))
      refine own_by (fun t kk_ => XS.iload X25.here hx rfl (hb hby at_108) rfl  kk_) ?_
      show OwnG p e below s _ _ _ (T25.setTop (mkF m 110 #[.val (.int a), .val (.int b), .val (.int c0), .val (.long v1), .second, .val (.long w1), .second, .val (.int N.toInt32), .val (.int cl.toInt32), .val (.int c2.toInt32), .val (.int sl.toInt32), .val (.int sl.toInt32), .val (.ref ob), .val (.int (0 : Int32)), .unset, .unset] [(.int (0 : Int32))]))
      refine own_by (fun t kk_ => XS.ifYes X25.here hx rfl (pc0 := 110) (pc' := 117) rfl (hb hby at_110) rfl ((if0 _ _).trans (teq (by decide)).1) (by decide) (by decide) kk_) ?_
      show OwnG p e below s _ _ _ (T25.setTop (mkF m 117 #[.val (.int a), .val (.int b), .val (.int c0), .val (.long v1), .second, .val (.long w1), .second, .val (.int N.toInt32), .val (.int cl.toInt32), .val (.int c2.toInt32), .val (.int sl.toInt32), .val (.int sl.toInt32), .val (.ref ob), .val (.int (0 : Int32)), .unset, .unset] []))
      refine own_by (fun t kk_ => XS.lload X25.here hx rfl (hb hby at_117) rfl  kk_) ?_
      show OwnG p e below s _ _ _ (T25.setTop (mkF m 119 #[.val (.int a), .val (.int b), .val (.int c0), .val (.long v1), .second, .val (.long w1), .second, .val (.int N.toInt32), .val (.int cl.toInt32), .val (.int c2.toInt32), .val (.int sl.toInt32), .val (.int sl.toInt32), .val (.ref ob), .val (.int (0 : Int32)), .unset, .unset] [(.long w1)]))
      refine own_by (fun t kk_ => XS.lstore X25.here hx rfl (hb hby at_119) rfl (l' := #[.val (.int a), .val (.int b), .val (.int c0), .val (.long v1), .second, .val (.long w1), .second, .val (.int N.toInt32), .val (.int cl.toInt32), .val (.int c2.toInt32), .val (.int sl.toInt32), .val (.int sl.toInt32), .val (.ref ob), .val (.int (0 : Int32)), .val (.long w1), .second]) rfl kk_) ?_
      show OwnG p e below s _ _ _ (T25.setTop (mkF m 121 #[.val (.int a), .val (.int b), .val (.int c0), .val (.long v1), .second, .val (.long w1), .second, .val (.int N.toInt32), .val (.int cl.toInt32), .val (.int c2.toInt32), .val (.int sl.toInt32), .val (.int sl.toInt32), .val (.ref ob), .val (.int (0 : Int32)), .val (.long w1), .second] []))
      refine own_by (fun t kk_ => XS.aload X25.here hx rfl (hb hby at_121) rfl rfl kk_) ?_
      show OwnG p e below s _ _ _ (T25.setTop (mkF m 123 #[.val (.int a), .val (.int b), .val (.int c0), .val (.long v1), .second, .val (.long w1), .second, .val (.int N.toInt32), .val (.int cl.toInt32), .val (.int c2.toInt32), .val (.int sl.toInt32), .val (.int sl.toInt32), .val (.ref ob), .val (.int (0 : Int32)), .val (.long w1), .second] [(.ref ob)]))
      refine own_by (fun t kk_ => XS.iload X25.here hx rfl (hb hby at_123) rfl  kk_) ?_
      show OwnG p e below s _ _ _ (T25.setTop (mkF m 125 #[.val (.int a), .val (.int b), .val (.int c0), .val (.long v1), .second, .val (.long w1), .second, .val (.int N.toInt32), .val (.int cl.toInt32), .val (.int c2.toInt32), .val (.int sl.toInt32), .val (.int sl.toInt32), .val (.ref ob), .val (.int (0 : Int32)), .val (.long w1), .second] [(.int sl.toInt32), (.ref ob)]))
      refine own_by (fun t kk_ => XS.iload X25.here hx rfl (hb hby at_125) rfl  kk_) ?_
      show OwnG p e below s _ _ _ (T25.setTop (mkF m 127 #[.val (.int a), .val (.int b), .val (.int c0), .val (.long v1), .second, .val (.long w1), .second, .val (.int N.toInt32), .val (.int cl.toInt32), .val (.int c2.toInt32), .val (.int sl.toInt32), .val (.int sl.toInt32), .val (.ref ob), .val (.int (0 : Int32)), .val (.long w1), .second] [(.int cl.toInt32), (.int sl.toInt32), (.ref ob)]))
      obtain ⟨cq28, kq28, q28a, q28b, q28c⟩ := isOf hZ (rfl : T25.heap = T25.heap) G25.1
      obtain ⟨_, _, ⟨T28, L28, k28, n28⟩, -, X28, ⟨Lc28, hQ28, l28, y28, z28⟩, st28⟩ := X25.virtualBack hx (y := (⟨"com/example/syncline/syncline/tpcc/LongColumns", "get", "(II)J"⟩ : MethodName)) (z := (⟨"com/example/syncline/syncline/tpcc/LongColumns", "get", "(II)J"⟩ : MethodName)) hown (mvT hZ (hw _ (List.mem_of_getElem? (i := 43) rfl))) (mvT hZ (hw _ (List.mem_of_getElem? (i := 44) rfl))) (notFace_of_selects (args := #[]) (mvT hZ (hw _ (List.mem_of_getElem? (i := 46) rfl)))) (mvT hZ (hw _ (List.mem_of_getElem? (i := 46) rfl))) (mvT hZ (hw _ (List.mem_of_getElem? (i := 45) rfl))) (by decide) (backOf (W := 0) (rm7 l Z a0 hw [] ob co N cl sl (own_U (own_U (fun _ _ => 0) c2 sl w1) cl sl v1) T25.heap n0 sz25 G25 hN4 hcl hsl gco) hZ (hw _ (List.mem_of_getElem? (i := 47) rfl)) (hw _ (List.mem_of_getElem? (i := 2) rfl)) (by decide) (by decide)) q28a q28c (g := (mkF m 127 #[.val (.int a), .val (.int b), .val (.int c0), .val (.long v1), .second, .val (.long w1), .second, .val (.int N.toInt32), .val (.int cl.toInt32), .val (.int c2.toInt32), .val (.int sl.toInt32), .val (.int sl.toInt32), .val (.ref ob), .val (.int (0 : Int32)), .val (.long w1), .second] [(.int cl.toInt32), (.int sl.toInt32), (.ref ob)])) rfl (by rw [hml]; rfl) (Steps.refl _) (argsL := [(.int sl.toInt32), (.int cl.toInt32)]) (rest := []) (lenOf pd_4 rfl) rfl (by show 2 * 0 + _ ≤ _; exact Nat.le_of_eq rfl) (hb hby at_127) (fun _ _ => ⟨rfl, (rfl : T25.heap = T25.heap), (by decide : 0 + 1 + 13 + 0 ≤ _), (by decide : 0 + 6 + 6154 + 0 ≤ _)⟩)
      dsimp only [Pt.U, Pt.locs, Pt.cells, Pt.slots] at X28 l28 y28 z28 st28 hQ28
      subst l28 y28 z28
      refine own_by (fun t kk_ => st28.trans kk_) ?_
      obtain ⟨rfl, N28q, hh28⟩ := hQ28
      have N28 := Fr.app N25 N28q
      have G28 := G25
      rw [← hh28] at G28
      have sz28 : n0 ≤ T28.heap.size := Nat.le_trans gco (Nat.le_of_lt G28.2.2.2.1.lt)
      show OwnG p e below s _ _ _ (T28.setTop (mkF m 130 #[.val (.int a), .val (.int b), .val (.int c0), .val (.long v1), .second, .val (.long w1), .second, .val (.int N.toInt32), .val (.int cl.toInt32), .val (.int c2.toInt32), .val (.int sl.toInt32), .val (.int sl.toInt32), .val (.ref ob), .val (.int (0 : Int32)), .val (.long w1), .second] [(.long ((own_U (own_U (fun _ _ => 0) c2 sl w1) cl sl v1) cl sl))]))
      refine own_by (fun t kk_ => XS.lloadN X28.here hx rfl (hb hby at_130) rfl  kk_) ?_
      show OwnG p e below s _ _ _ (T28.setTop (mkF m 131 #[.val (.int a), .val (.int b), .val (.int c0), .val (.long v1), .second, .val (.long w1), .second, .val (.int N.toInt32), .val (.int cl.toInt32), .val (.int c2.toInt32), .val (.int sl.toInt32), .val (.int sl.toInt32), .val (.ref ob), .val (.int (0 : Int32)), .val (.long w1), .second] [(.long v1), (.long ((own_U (own_U (fun _ _ => 0) c2 sl w1) cl sl v1) cl sl))]))
      refine own_by (fun t kk_ => XS.lcmp X28.here hx rfl (hb hby at_131) rfl kk_) ?_
      show OwnG p e below s _ _ _ (T28.setTop (mkF m 132 #[.val (.int a), .val (.int b), .val (.int c0), .val (.long v1), .second, .val (.long w1), .second, .val (.int N.toInt32), .val (.int cl.toInt32), .val (.int c2.toInt32), .val (.int sl.toInt32), .val (.int sl.toInt32), .val (.ref ob), .val (.int (0 : Int32)), .val (.long w1), .second] [(.int (lcmpW ((own_U (own_U (fun _ _ => 0) c2 sl w1) cl sl v1) cl sl) v1))]))
      refine own_by (fun t kk_ => XS.ifNo X28.here hx rfl (hb hby at_132) rfl ((if0 _ _).trans (teq ((lw_eq _ _).mpr (own_UH _ _ _ _))).2) kk_) ?_
      show OwnG p e below s _ _ _ (T28.setTop (mkF m 135 #[.val (.int a), .val (.int b), .val (.int c0), .val (.long v1), .second, .val (.long w1), .second, .val (.int N.toInt32), .val (.int cl.toInt32), .val (.int c2.toInt32), .val (.int sl.toInt32), .val (.int sl.toInt32), .val (.ref ob), .val (.int (0 : Int32)), .val (.long w1), .second] []))
      refine own_by (fun t kk_ => XS.aload X28.here hx rfl (hb hby at_135) rfl rfl kk_) ?_
      show OwnG p e below s _ _ _ (T28.setTop (mkF m 137 #[.val (.int a), .val (.int b), .val (.int c0), .val (.long v1), .second, .val (.long w1), .second, .val (.int N.toInt32), .val (.int cl.toInt32), .val (.int c2.toInt32), .val (.int sl.toInt32), .val (.int sl.toInt32), .val (.ref ob), .val (.int (0 : Int32)), .val (.long w1), .second] [(.ref ob)]))
      refine own_by (fun t kk_ => XS.iload X28.here hx rfl (hb hby at_137) rfl  kk_) ?_
      show OwnG p e below s _ _ _ (T28.setTop (mkF m 139 #[.val (.int a), .val (.int b), .val (.int c0), .val (.long v1), .second, .val (.long w1), .second, .val (.int N.toInt32), .val (.int cl.toInt32), .val (.int c2.toInt32), .val (.int sl.toInt32), .val (.int sl.toInt32), .val (.ref ob), .val (.int (0 : Int32)), .val (.long w1), .second] [(.int sl.toInt32), (.ref ob)]))
      refine own_by (fun t kk_ => XS.iload X28.here hx rfl (hb hby at_139) rfl  kk_) ?_
      show OwnG p e below s _ _ _ (T28.setTop (mkF m 141 #[.val (.int a), .val (.int b), .val (.int c0), .val (.long v1), .second, .val (.long w1), .second, .val (.int N.toInt32), .val (.int cl.toInt32), .val (.int c2.toInt32), .val (.int sl.toInt32), .val (.int sl.toInt32), .val (.ref ob), .val (.int (0 : Int32)), .val (.long w1), .second] [(.int c2.toInt32), (.int sl.toInt32), (.ref ob)]))
      obtain ⟨cq29, kq29, q29a, q29b, q29c⟩ := isOf hZ (rfl : T28.heap = T28.heap) G28.1
      obtain ⟨_, _, ⟨T29, L29, k29, n29⟩, -, X29, ⟨Lc29, hQ29, l29, y29, z29⟩, st29⟩ := X28.virtualBack hx (y := (⟨"com/example/syncline/syncline/tpcc/LongColumns", "get", "(II)J"⟩ : MethodName)) (z := (⟨"com/example/syncline/syncline/tpcc/LongColumns", "get", "(II)J"⟩ : MethodName)) hown (mvT hZ (hw _ (List.mem_of_getElem? (i := 43) rfl))) (mvT hZ (hw _ (List.mem_of_getElem? (i := 44) rfl))) (notFace_of_selects (args := #[]) (mvT hZ (hw _ (List.mem_of_getElem? (i := 46) rfl)))) (mvT hZ (hw _ (List.mem_of_getElem? (i := 46) rfl))) (mvT hZ (hw _ (List.mem_of_getElem? (i := 45) rfl))) (by decide) (backOf (W := 0) (rm7 l Z a0 hw [] ob co N c2 sl (own_U (own_U (fun _ _ => 0) c2 sl w1) cl sl v1) T28.heap n0 sz28 G28 hN4 hc2 hsl gco) hZ (hw _ (List.mem_of_getElem? (i := 47) rfl)) (hw _ (List.mem_of_getElem? (i := 2) rfl)) (by decide) (by decide)) q29a q29c (g := (mkF m 141 #[.val (.int a), .val (.int b), .val (.int c0), .val (.long v1), .second, .val (.long w1), .second, .val (.int N.toInt32), .val (.int cl.toInt32), .val (.int c2.toInt32), .val (.int sl.toInt32), .val (.int sl.toInt32), .val (.ref ob), .val (.int (0 : Int32)), .val (.long w1), .second] [(.int c2.toInt32), (.int sl.toInt32), (.ref ob)])) rfl (by rw [hml]; rfl) (Steps.refl _) (argsL := [(.int sl.toInt32), (.int c2.toInt32)]) (rest := []) (lenOf pd_4 rfl) rfl (by show 2 * 0 + _ ≤ _; exact Nat.le_of_eq rfl) (hb hby at_141) (fun _ _ => ⟨rfl, (rfl : T28.heap = T28.heap), (by decide : 0 + 1 + 13 + 0 ≤ _), (by decide : 0 + 6 + 6154 + 0 ≤ _)⟩)
      dsimp only [Pt.U, Pt.locs, Pt.cells, Pt.slots] at X29 l29 y29 z29 st29 hQ29
      subst l29 y29 z29
      refine own_by (fun t kk_ => st29.trans kk_) ?_
      obtain ⟨rfl, N29q, hh29⟩ := hQ29
      have N29 := Fr.app N28 N29q
      have G29 := G28
      rw [← hh29] at G29
      have sz29 : n0 ≤ T29.heap.size := Nat.le_trans gco (Nat.le_of_lt G29.2.2.2.1.lt)
      show OwnG p e below s _ _ _ (T29.setTop (mkF m 144 #[.val (.int a), .val (.int b), .val (.int c0), .val (.long v1), .second, .val (.long w1), .second, .val (.int N.toInt32), .val (.int cl.toInt32), .val (.int c2.toInt32), .val (.int sl.toInt32), .val (.int sl.toInt32), .val (.ref ob), .val (.int (0 : Int32)), .val (.long w1), .second] [(.long ((own_U (own_U (fun _ _ => 0) c2 sl w1) cl sl v1) c2 sl))]))
      refine own_by (fun t kk_ => XS.lload X29.here hx rfl (hb hby at_144) rfl  kk_) ?_
      show OwnG p e below s _ _ _ (T29.setTop (mkF m 146 #[.val (.int a), .val (.int b), .val (.int c0), .val (.long v1), .second, .val (.long w1), .second, .val (.int N.toInt32), .val (.int cl.toInt32), .val (.int c2.toInt32), .val (.int sl.toInt32), .val (.int sl.toInt32), .val (.ref ob), .val (.int (0 : Int32)), .val (.long w1), .second] [(.long w1), (.long ((own_U (own_U (fun _ _ => 0) c2 sl w1) cl sl v1) c2 sl))]))
      refine own_by (fun t kk_ => XS.lcmp X29.here hx rfl (hb hby at_146) rfl kk_) ?_
      show OwnG p e below s _ _ _ (T29.setTop (mkF m 147 #[.val (.int a), .val (.int b), .val (.int c0), .val (.long v1), .second, .val (.long w1), .second, .val (.int N.toInt32), .val (.int cl.toInt32), .val (.int c2.toInt32), .val (.int sl.toInt32), .val (.int sl.toInt32), .val (.ref ob), .val (.int (0 : Int32)), .val (.long w1), .second] [(.int (lcmpW ((own_U (own_U (fun _ _ => 0) c2 sl w1) cl sl v1) c2 sl) w1))]))
      refine own_by (fun t kk_ => XS.ifNo X29.here hx rfl (hb hby at_147) rfl ((if0 _ _).trans (teq ((lw_eq _ _).mpr ((own_UM (fun q => h98 (by rw [q.1]))).trans (own_UH _ _ _ _)))).2) kk_) ?_
      show OwnG p e below s _ _ _ (T29.setTop (mkF m 150 #[.val (.int a), .val (.int b), .val (.int c0), .val (.long v1), .second, .val (.long w1), .second, .val (.int N.toInt32), .val (.int cl.toInt32), .val (.int c2.toInt32), .val (.int sl.toInt32), .val (.int sl.toInt32), .val (.ref ob), .val (.int (0 : Int32)), .val (.long w1), .second] []))
      refine own_by (fun t kk_ => XS.iconst X29.here hx rfl (hb hby at_150) kk_) ?_
      show OwnG p e below s _ _ _ (T29.setTop (mkF m 151 #[.val (.int a), .val (.int b), .val (.int c0), .val (.long v1), .second, .val (.long w1), .second, .val (.int N.toInt32), .val (.int cl.toInt32), .val (.int c2.toInt32), .val (.int sl.toInt32), .val (.int sl.toInt32), .val (.ref ob), .val (.int (0 : Int32)), .val (.long w1), .second] [(.int (1 : Int32))]))
      refine own_by (fun t kk_ => XS.goto X29.here hx rfl (pc0 := 151) (pc' := 155) rfl (hb hby at_151) (by decide) (by decide) kk_) ?_
      show OwnG p e below s _ _ _ (T29.setTop (mkF m 155 #[.val (.int a), .val (.int b), .val (.int c0), .val (.long v1), .second, .val (.long w1), .second, .val (.int N.toInt32), .val (.int cl.toInt32), .val (.int c2.toInt32), .val (.int sl.toInt32), .val (.int sl.toInt32), .val (.ref ob), .val (.int (0 : Int32)), .val (.long w1), .second] [(.int (1 : Int32))]))
      exact own_outN X29 hx hret (by simp) hlk (hb hby at_155) rfl (⟨rfl, N29⟩) (by decide) (by decide)
set_option maxRecDepth 65536 in
set_option maxHeartbeats 40000000 in
theorem comes_1 {Post : Tables → Env → Array Value → State → Outcome → State → Prop} (hpost : ∀ tb e args s v u, (limb_1_1.after args s (.returned v) u = true ∧ limb_1_2.after args s (.returned v) u = true ∧ True) → FrameEnd s (.returned v) u (Jvm.fieldLocs frame_1_writes args s ++ Jvm.arrayLocs frame_1_arrays args s ++ Jvm.staticLocs frame_1_statics s) 40 12416 → Post tb e args s (.returned v) u) :
    ArmFor flags0 classFile x code maxLocals ret World_1 tables_1 room_1 Calls_1 rest_1 Pre_1 Post := by
  intro l hfl _ _ p e ha hc hk s m args below hf hA hF happ hP
  obtain ⟨hcalls, hrest, hpre⟩ := hP
  obtain ⟨-, -, -, hnamed, -, -, -, hat⟩ := (Spec.applies_iff hf).mp happ
  obtain ⟨hg, hn⟩ := and_e (Cond.before_iff.mp (show (Jvm.Cond.and given_1 narrow_1).before args s = true from hpre))
  obtain ⟨gc, gr0⟩ := and_e hg
  obtain ⟨ga0, gr1⟩ := and_e gr0
  obtain ⟨ga1, gr2⟩ := and_e gr1
  obtain ⟨ga2, gr3⟩ := and_e gr2
  obtain ⟨ga3, gr4⟩ := and_e gr3
  obtain ⟨w0, w1, w2, w3, w4, rfl⟩ : ∃ w0 w1 w2 w3 w4 : Value, args = #[w0, w1, w2, w3, w4] := by
    have hs : args.size = 5 := by simpa [Cond.value, given_1] using gc
    obtain ⟨L⟩ := args
    match L, hs with
    | [w0, w1, w2, w3, w4], _ => exact ⟨w0, w1, w2, w3, w4, rfl⟩
  have hw := fun d (hd : d ∈ tables_1) => atoms_spec (ws := Jvm.Cond.code x code maxLocals ret :: tables_1) hat d (List.mem_cons_of_mem _ hd)
  obtain ⟨i0, ei0⟩ := is_v ga0
  obtain rfl : w0 = (.int i0) := Option.some.inj ei0
  obtain ⟨i1, ei1⟩ := is_v ga1
  obtain rfl : w1 = (.int i1) := Option.some.inj ei1
  obtain ⟨i2, ei2⟩ := is_v ga2
  obtain rfl : w2 = (.int i2) := Option.some.inj ei2
  obtain ⟨i3, ei3⟩ := isL_v ga3
  obtain rfl : w3 = (.long i3) := Option.some.inj ei3
  obtain ⟨i4, ei4⟩ := isL_v gr4
  obtain rfl : w4 = (.long i4) := Option.some.inj ei4
  obtain ⟨n, o, h1, h2, h3, _, L, rfl, ⟨rfl, N⟩, hq⟩ := rm0 l s _ hw tables_1 i0 i1 i2 i3 i4 s.heap s.heap.size (Nat.le_refl _) p e ha hc hk s m _ below hf ((Spec.applies_iff_loose hf).mp happ).1 ⟨rfl, State.Warmed39.refl s, rfl⟩ trivial
  refine ⟨n, _, h1, h2, h3, hpost _ _ _ _ _ _ ⟨Cond.after_iff.mpr rfl, Cond.after_iff.mpr (eq_i res_at (Term.int_eval (1)) rfl), trivial⟩ ⟨hq.1, hq.2.1, (hq.2.2.sift fun y hy => Or.inr (N y hy)).mono (by decide) (by decide)⟩⟩
theorem main_1_1 : Claimed_1_1 := comes_1 fun _ _ _ _ _ _ h hF => ⟨h.1, hF⟩
theorem main_1_2 : Claimed_1_2 := comes_1 fun _ _ _ _ _ _ h hF => ⟨h.2.1, hF⟩
end Jvm.Pilot.@@N@@
namespace Jvm.Pilot.@@N@@
open Jvm Jvm.ClassFile Sem Op Lib Jvm.Free Jvm.Stand Jvm.Pilot.@@N@@.Jvm.D
/-! MADE BY PROGRAM (witnessworld.py) out of the Statement's table words and the real class files: 14 classes; the members and pool entries that the words name. The judged class is class 1, her method 1. -/
namespace start1
open Jvm.ClassFile
def u (s : String) : CpInfo := .utf8 (stringToUtf16 s)
/-- a pool by its gaps: so many unusable entries, then the entry; so many at the end -/
def gap : Nat → List CpInfo → List CpInfo
  | 0, r => r
  | n + 1, r => .unusable :: gap n r
def poolList (es : List (Nat × CpInfo)) (last : Nat) : List CpInfo := es.foldr (fun e r => gap e.1 (e.2 :: r)) (gap last [])
def pool (es : List (Nat × CpInfo)) (last : Nat) : Array CpInfo := ⟨poolList es last⟩
def fileOf (pool : Array CpInfo) (this : Nat) (attrs : Array Attribute := #[]) (ms : Array MethodInfo := #[]) (fl : Nat := 33) (sup : Nat := 0) (ifs : Array Nat := #[]) (fds : Array FieldInfo := #[]) : ClassFile where
  minorVersion := 0
  majorVersion := 65
  constantPool := pool
  accessFlags := fl
  thisClass := this
  superClass := sup
  interfaces := ifs
  fields := fds
  methods := ms
  attributes := attrs
def plain (name : String) (sup : Option ClassId) : Class where
  name := name
  kind := .ordinary
  loader := none
  accessFlags := 33
  super := sup
  interfaces := #[]
  cf := none
  fields := #[]
  methods := #[]
  instanceTypes := #[]
  staticTypes := #[]
  resolved := #[]
  callSites := []
  init := .initialized
  statics := none
  mirror := none

def pool0 : Array CpInfo := pool [(5, u "<init>"), (0, u "()V"), (1, .class_ 10), (1, u "java/lang/Object")] 113

def k0c0 : Code := { maxStack := 0, maxLocals := 1, code := object_method_1_code, exceptionTable := #[], attributes := #[] }
def k0m0 : Method := { name := "<init>", desc := "()V", sig := { parameters := [], returnType := none }, accessFlags := 1, code := some k0c0 }
/-- java/lang/Object -/
def k0 : Class := { plain "java/lang/Object" none with
  accessFlags := 33
  interfaces := #[]
  cf := some (fileOf pool0 8 #[] #[{ accessFlags := 1, nameIndex := 5, descriptorIndex := 6, attributes := #[] }] 33 0 #[] #[])
  fields := #[]
  methods := #[k0m0]
  instanceTypes := #[]
  staticTypes := #[]
  resolved := Array.replicate 124 none
  statics := none }

def pool1 : Array CpInfo := pool [(2, .class_ 4), (1, u "java/lang/Object"), (0, u "<init>"), (0, u "()V"), (0, .class_ 8), (0, u "com/example/syncline/syncline/tpcc/LongColumns"), (0, .methodref 7 10), (0, .nameAndType 5 11), (0, u "(I)V"), (0, .methodref 7 13), (0, .nameAndType 14 15), (0, u "set"), (0, u "(IIJ)V"), (0, .methodref 7 17), (0, .nameAndType 18 19), (0, u "get"), (0, u "(II)J"), (0, .class_ 21), (0, u "com/example/syncline/syncline/tpcc/LongColumnsSetPinLaw"), (2, u "law"), (0, u "(IIIJJ)Z")] 3

def k1m0 : Method := { name := "<init>", desc := "()V", sig := { parameters := [], returnType := none }, accessFlags := 1, code := none }
def k1c1 : Code := { maxStack := 5, maxLocals := 16, code := code, exceptionTable := #[], attributes := #[] }
def k1m1 : Method := { name := "law", desc := "(IIIJJ)Z", sig := { parameters := [.int, .int, .int, .long, .long], returnType := some .boolean }, accessFlags := 9, code := some k1c1 }
/-- com/example/syncline/syncline/tpcc/LongColumnsSetPinLaw -/
def k1 : Class := { plain "com/example/syncline/syncline/tpcc/LongColumnsSetPinLaw" (some 0) with
  accessFlags := 49
  interfaces := #[]
  cf := some (fileOf pool1 20 #[] #[{ accessFlags := 1, nameIndex := 5, descriptorIndex := 6, attributes := #[] }, { accessFlags := 9, nameIndex := 24, descriptorIndex := 25, attributes := #[] }] 49 2 #[] #[])
  fields := #[]
  methods := #[k1m0, k1m1]
  instanceTypes := #[]
  staticTypes := #[]
  resolved := Array.replicate 29 none
  statics := none }

def pool2 : Array CpInfo := pool [(1, .class_ 2), (0, u "com/example/syncline/syncline/tpcc/LongColumns"), (0, .methodref 4 5), (0, .class_ 6), (0, .nameAndType 7 8), (0, u "java/lang/Object"), (0, u "<init>"), (0, u "()V"), (0, .fieldref 1 10), (0, .nameAndType 11 12), (0, u "columnCount"), (0, u "I"), (0, .methodref 1 14), (0, .nameAndType 15 16), (0, u "allocate"), (0, u "(I)V"), (12, u "size"), (2, .fieldref 1 33), (0, .nameAndType 34 12), (0, u "slots"), (7, .fieldref 1 43), (0, .nameAndType 44 45), (0, u "columns"), (0, u "[[[J"), (15, .fieldref 1 62), (0, .nameAndType 63 64), (0, u "keys"), (0, u "[[J"), (0, .fieldref 1 66), (0, .nameAndType 67 68), (0, u "used"), (0, u "[[Z"), (0, .methodref 70 71), (0, .class_ 72), (0, .nameAndType 73 74), (0, u "java/lang/Math"), (0, u "max"), (0, u "(II)I"), (0, .methodref 70 76), (0, .nameAndType 77 74), (0, u "min"), (0, .class_ 64), (0, .class_ 68), (0, .class_ 45), (2, u "set"), (0, u "(IIJ)V"), (0, u "ABSENT"), (2, u "PAGE_BITS"), (1, u "PAGE_MASK"), (1, u "FIRST_SLOTS"), (1, u "GOLDEN"), (0, u "J"), (5, u "get"), (0, u "(II)J")] 5

def k2c0 : Code := { maxStack := 2, maxLocals := 2, code := prog_261_method_1_code, exceptionTable := #[], attributes := #[] }
def k2m0 : Method := { name := "<init>", desc := "(I)V", sig := { parameters := [.int], returnType := none }, accessFlags := 0, code := some k2c0 }
def k2c1 : Code := { maxStack := 3, maxLocals := 3, code := prog_261_method_4_code, exceptionTable := #[], attributes := #[] }
def k2m1 : Method := { name := "get", desc := "(II)J", sig := { parameters := [.int, .int], returnType := some .long }, accessFlags := 0, code := some k2c1 }
def k2c2 : Code := { maxStack := 4, maxLocals := 5, code := prog_261_method_5_code, exceptionTable := #[], attributes := #[] }
def k2m2 : Method := { name := "set", desc := "(IIJ)V", sig := { parameters := [.int, .int, .long], returnType := none }, accessFlags := 0, code := some k2c2 }
def k2c3 : Code := { maxStack := 4, maxLocals := 4, code := prog_261_method_11_code, exceptionTable := #[], attributes := #[] }
def k2m3 : Method := { name := "allocate", desc := "(I)V", sig := { parameters := [.int], returnType := none }, accessFlags := 2, code := some k2c3 }
/-- com/example/syncline/syncline/tpcc/LongColumns -/
def k2 : Class := { plain "com/example/syncline/syncline/tpcc/LongColumns" (some 0) with
  accessFlags := 48
  interfaces := #[]
  cf := some (fileOf pool2 1 #[] #[{ accessFlags := 0, nameIndex := 7, descriptorIndex := 16, attributes := #[] }, { accessFlags := 0, nameIndex := 101, descriptorIndex := 102, attributes := #[] }, { accessFlags := 0, nameIndex := 83, descriptorIndex := 84, attributes := #[] }, { accessFlags := 2, nameIndex := 15, descriptorIndex := 16, attributes := #[] }] 48 4 #[] #[{ accessFlags := 24, nameIndex := 85, descriptorIndex := 12, attributes := #[] }, { accessFlags := 26, nameIndex := 88, descriptorIndex := 12, attributes := #[] }, { accessFlags := 26, nameIndex := 90, descriptorIndex := 12, attributes := #[] }, { accessFlags := 26, nameIndex := 92, descriptorIndex := 12, attributes := #[] }, { accessFlags := 26, nameIndex := 94, descriptorIndex := 95, attributes := #[] }, { accessFlags := 18, nameIndex := 11, descriptorIndex := 12, attributes := #[] }, { accessFlags := 2, nameIndex := 34, descriptorIndex := 12, attributes := #[] }, { accessFlags := 2, nameIndex := 63, descriptorIndex := 64, attributes := #[] }, { accessFlags := 2, nameIndex := 67, descriptorIndex := 68, attributes := #[] }, { accessFlags := 2, nameIndex := 44, descriptorIndex := 45, attributes := #[] }, { accessFlags := 2, nameIndex := 29, descriptorIndex := 12, attributes := #[] }])
  fields := #[{ name := "ABSENT", type := .int, accessFlags := 24, slot := 0, constantValue := 0 }, { name := "PAGE_BITS", type := .int, accessFlags := 26, slot := 1, constantValue := 0 }, { name := "PAGE_MASK", type := .int, accessFlags := 26, slot := 2, constantValue := 0 }, { name := "FIRST_SLOTS", type := .int, accessFlags := 26, slot := 3, constantValue := 0 }, { name := "GOLDEN", type := .long, accessFlags := 26, slot := 4, constantValue := 0 }, { name := "columnCount", type := .int, accessFlags := 18, slot := 0, constantValue := 0 }, { name := "slots", type := .int, accessFlags := 2, slot := 1, constantValue := 0 }, { name := "keys", type := (.array (.array .long)), accessFlags := 2, slot := 2, constantValue := 0 }, { name := "used", type := (.array (.array .boolean)), accessFlags := 2, slot := 3, constantValue := 0 }, { name := "columns", type := (.array (.array (.array .long))), accessFlags := 2, slot := 4, constantValue := 0 }, { name := "size", type := .int, accessFlags := 2, slot := 5, constantValue := 0 }]
  methods := #[k2m0, k2m1, k2m2, k2m3]
  instanceTypes := #[.int, .int, (.array (.array .long)), (.array (.array .boolean)), (.array (.array (.array .long))), .int]
  staticTypes := #[.int, .int, .int, .int, .long]
  resolved := Array.replicate 108 none
  statics := none }

def pool3 : Array CpInfo := pool [(1, .class_ 2), (0, u "java/lang/Math"), (1, .class_ 6), (1, u "java/lang/Object"), (0, u "<init>"), (0, u "()V"), (89, .class_ 100), (1, u "java/lang/Math$RandomNumberGeneratorHolder"), (71, u "negativeZeroFloatBits"), (0, u "J"), (2, u "negativeZeroDoubleBits"), (21, u "max"), (2, u "min"), (43, u "$assertionsDisabled"), (0, u "Z"), (88, u "(II)I"), (2, u "twoToTheDoubleScaleDown"), (0, u "D"), (4, u "twoToTheDoubleScaleUp"), (9, u "E"), (3, u "PI"), (2, u "TAU"), (2, u "DEGREES_TO_RADIANS"), (0, u "RADIANS_TO_DEGREES")] 94

def k3m0 : Method := { name := "<init>", desc := "()V", sig := { parameters := [], returnType := none }, accessFlags := 2, code := none }
def k3c1 : Code := { maxStack := 2, maxLocals := 2, code := jdk_29_method_65_code, exceptionTable := #[], attributes := #[] }
def k3m1 : Method := { name := "max", desc := "(II)I", sig := { parameters := [.int, .int], returnType := some .int }, accessFlags := 9, code := some k3c1 }
def k3c2 : Code := { maxStack := 2, maxLocals := 2, code := jdk_29_method_69_code, exceptionTable := #[], attributes := #[] }
def k3m2 : Method := { name := "min", desc := "(II)I", sig := { parameters := [.int, .int], returnType := some .int }, accessFlags := 9, code := some k3c2 }
/-- java/lang/Math -/
def k3 : Class := { plain "java/lang/Math" (some 0) with
  accessFlags := 49
  interfaces := #[]
  cf := some (fileOf pool3 1 #[.nestMembers #[98]] #[{ accessFlags := 2, nameIndex := 7, descriptorIndex := 8, attributes := #[] }, { accessFlags := 9, nameIndex := 198, descriptorIndex := 335, attributes := #[] }, { accessFlags := 9, nameIndex := 201, descriptorIndex := 335, attributes := #[] }] 49 4 #[] #[{ accessFlags := 25, nameIndex := 354, descriptorIndex := 339, attributes := #[] }, { accessFlags := 25, nameIndex := 358, descriptorIndex := 339, attributes := #[] }, { accessFlags := 25, nameIndex := 361, descriptorIndex := 339, attributes := #[] }, { accessFlags := 26, nameIndex := 364, descriptorIndex := 339, attributes := #[] }, { accessFlags := 26, nameIndex := 365, descriptorIndex := 339, attributes := #[] }, { accessFlags := 26, nameIndex := 172, descriptorIndex := 173, attributes := #[] }, { accessFlags := 26, nameIndex := 176, descriptorIndex := 173, attributes := #[] }, { accessFlags := 8, nameIndex := 344, descriptorIndex := 339, attributes := #[] }, { accessFlags := 8, nameIndex := 338, descriptorIndex := 339, attributes := #[] }, { accessFlags := 4120, nameIndex := 245, descriptorIndex := 246, attributes := #[] }])
  fields := #[{ name := "E", type := .double, accessFlags := 25, slot := 0, constantValue := 0 }, { name := "PI", type := .double, accessFlags := 25, slot := 1, constantValue := 0 }, { name := "TAU", type := .double, accessFlags := 25, slot := 2, constantValue := 0 }, { name := "DEGREES_TO_RADIANS", type := .double, accessFlags := 26, slot := 3, constantValue := 0 }, { name := "RADIANS_TO_DEGREES", type := .double, accessFlags := 26, slot := 4, constantValue := 0 }, { name := "negativeZeroFloatBits", type := .long, accessFlags := 26, slot := 5, constantValue := 0 }, { name := "negativeZeroDoubleBits", type := .long, accessFlags := 26, slot := 6, constantValue := 0 }, { name := "twoToTheDoubleScaleUp", type := .double, accessFlags := 8, slot := 7, constantValue := 0 }, { name := "twoToTheDoubleScaleDown", type := .double, accessFlags := 8, slot := 8, constantValue := 0 }, { name := "$assertionsDisabled", type := .boolean, accessFlags := 4120, slot := 9, constantValue := 0 }]
  methods := #[k3m0, k3m1, k3m2]
  instanceTypes := #[]
  staticTypes := #[.double, .double, .double, .double, .double, .long, .long, .double, .double, .boolean]
  resolved := Array.replicate 460 none
  statics := none }

def pool4 : Array CpInfo := pool [(1, u "java/lang/Cloneable"), (0, .class_ 1), (0, u "java/lang/Object"), (0, .class_ 3)] 3

/-- java/lang/Cloneable -/
def k4 : Class := { plain "java/lang/Cloneable" (some 0) with
  accessFlags := 1537
  interfaces := #[]
  cf := some (fileOf pool4 2 #[] #[] 1537 4 #[] #[])
  fields := #[]
  methods := #[]
  instanceTypes := #[]
  staticTypes := #[]
  resolved := Array.replicate 8 none
  statics := none }

def pool5 : Array CpInfo := pool [(1, u "java/io/Serializable"), (0, .class_ 1), (0, u "java/lang/Object"), (0, .class_ 3)] 3

/-- java/io/Serializable -/
def k5 : Class := { plain "java/io/Serializable" (some 0) with
  accessFlags := 1537
  interfaces := #[]
  cf := some (fileOf pool5 2 #[] #[] 1537 4 #[] #[])
  fields := #[]
  methods := #[]
  instanceTypes := #[]
  staticTypes := #[]
  resolved := Array.replicate 8 none
  statics := none }

/-- the primitive boolean -/
def k6 : Class := { plain "boolean" none with kind := .primitive 'Z', accessFlags := 0x411 }
/-- [Z -/
def k7 : Class := { plain "[Z" (some 0) with kind := .array 6 .boolean, interfaces := #[4, 5], accessFlags := 1041 }

/-- the primitive byte -/
def k8 : Class := { plain "byte" none with kind := .primitive 'B', accessFlags := 0x411 }
/-- [B -/
def k9 : Class := { plain "[B" (some 0) with kind := .array 8 .byte, interfaces := #[4, 5], accessFlags := 1041 }

/-- the primitive int -/
def k10 : Class := { plain "int" none with kind := .primitive 'I', accessFlags := 0x411 }
/-- [I -/
def k11 : Class := { plain "[I" (some 0) with kind := .array 10 .int, interfaces := #[4, 5], accessFlags := 1041 }

/-- the primitive long -/
def k12 : Class := { plain "long" none with kind := .primitive 'J', accessFlags := 0x411 }
/-- [J -/
def k13 : Class := { plain "[J" (some 0) with kind := .array 12 .long, interfaces := #[4, 5], accessFlags := 1041 }

def k14 : Class := { plain "[[J" (some 0) with kind := .array 13 (.array .long), interfaces := #[4, 5], accessFlags := 1041 }
def k15 : Class := { plain "[[Z" (some 0) with kind := .array 7 (.array .boolean), interfaces := #[4, 5], accessFlags := 1041 }
def k16 : Class := { plain "[[[J" (some 0) with kind := .array 14 (.array (.array .long)), interfaces := #[4, 5], accessFlags := 1041 }
def heap : Heap := #[]
def classes : Array Class := #[k0, k1, k2, k3, k4, k5, k6, k7, k8, k9, k10, k11, k12, k13, k14, k15, k16]
def interned : List (Array UInt16 × Addr) := []
def slotsUsed : Nat := 0
def theMethod : MethodId := ⟨1, 1⟩
def args0 : Array Value := #[.int 5, .int 3, .int 3, .long 3, .long 3]
def aboutOver (below : List Frame) : State where
  vm := { classes := classes, interned := interned.toArray }
  heap := heap
  slotsUsed := slotsUsed
  threads := #[{ frames := .invoking theMethod args0 :: below }]
def below0 : List Frame := [.native { method := ⟨0, 0⟩, args := #[] }]
def about1 : State := aboutOver below0
def p0 : Program := .bare "" "" ""
def e0 : Env := launch0.env 0 0 0
theorem w_frames : about1.frames = Frame.invoking theMethod args0 :: below0 := rfl
set_option maxRecDepth 65536 in
theorem w_args : argsFit about1.vm theMethod args0 = true := by decide +kernel
set_option maxRecDepth 65536 in
theorem w_heap : heapFits about1 = true := by decide +kernel
set_option maxRecDepth 65536 in
theorem w_runnable : about1.curStatus? = some .runnable := by decide +kernel
set_option maxRecDepth 65536 in
theorem w_alone : about1.alone = true := by decide +kernel
set_option maxRecDepth 65536 in
theorem w_named : about1.methodNamed? x = some theMethod := by decide +kernel
set_option maxRecDepth 65536 in
theorem w_hears : about1.hears theMethod below0 = true := by decide +kernel
set_option maxRecDepth 65536 in
theorem w_ripe : about1.ripe theMethod args0 below0 = true := by decide +kernel
theorem w_running : about1.status = .running := rfl
set_option maxRecDepth 65536 in
theorem w_room : about1.hasRoom e0.platform room_1 = true :=
  launch0.hasRoom_least _ room_1 (by decide +kernel) (by decide +kernel) (by decide +kernel) (by decide +kernel) (by decide +kernel) (by decide +kernel)
theorem allAtoms_all (ts : List Jvm.Cond) (a : Array Jvm.Value) (st : Jvm.State) : (allAtoms ts).before a st = ts.all (fun c => c.before a st) := by
  induction ts with
  | nil => rfl
  | cons c t ih =>
    show (Jvm.Cond.and c (allAtoms t)).before a st = _
    rw [Jvm.Cond.before_and, ih, List.all_cons]
def words1 : List Jvm.Cond := Jvm.Cond.code x code maxLocals ret :: tables_1
/-- a 'code' word, met by the world's own term for the bytes: nothing is compared byte by byte -/
theorem code_word {y : MethodName} {bytes : ByteArray} {mx : Nat} {rt : Option FieldType} {a : Array Value} {s : State} {m : MethodId} {meth : Method} {c : Code} (h1 : s.methodNamed? y = some m) (h2 : s.vm.method? m = some meth) (h3 : meth.code = some c) (h4 : c.code = bytes)
    (h5 : (c.maxLocals == mx && c.exceptionTable.isEmpty && decide (c.maxStack ≤ mostOperands) && decide (meth.sig.returnType = rt) && !meth.locks && decide (parseMethodDescriptor y.desc = some meth.sig)) = true) : (Jvm.Cond.code y bytes mx rt).before a s = true := by
  simp only [Bool.and_eq_true, beq_iff_eq, Bool.not_eq_true', decide_eq_true_eq] at h5
  obtain ⟨⟨⟨⟨⟨g1, g2⟩, g3⟩, g4⟩, g5⟩, g6⟩ := h5
  simp [Cond.before, Cond.holds, Cond.value, h1, h2, h3, h4, g1, g2, g3, g4, g5, g6]
def isCode : Jvm.Cond → Bool
  | .code _ _ _ _ => true
  | _ => false
theorem all_split {L : List Jvm.Cond} {P : Jvm.Cond → Bool} (h1 : L.all (fun c => isCode c || P c) = true) (h2 : ∀ c ∈ L.filter isCode, P c = true) : L.all P = true := by
  refine List.all_eq_true.mpr fun c hc => ?_
  have h := List.all_eq_true.mp h1 c hc
  rcases Bool.eq_false_or_eq_true (isCode c) with hi | hi
  · exact h2 c (List.mem_filter.mpr ⟨hc, hi⟩)
  · simpa [hi] using h
set_option maxRecDepth 65536 in
theorem w_c0 : (Jvm.Cond.code x code maxLocals ret).before args0 about1 = true := code_word (m := ⟨1, 1⟩) (meth := k1m1) (c := k1c1) (by decide +kernel) rfl rfl rfl (by decide +kernel)
set_option maxRecDepth 65536 in
theorem w_c1 : (Jvm.Cond.code ({ cls := "com/example/syncline/syncline/tpcc/LongColumns", name := "<init>", desc := "(I)V" } : Jvm.MethodName) prog_261_method_1_code (2 : Nat) (Option.none : Option Jvm.ClassFile.FieldType)).before args0 about1 = true := code_word (m := ⟨2, 0⟩) (meth := k2m0) (c := k2c0) (by decide +kernel) rfl rfl rfl (by decide +kernel)
set_option maxRecDepth 65536 in
theorem w_c2 : (Jvm.Cond.code ({ cls := "java/lang/Object", name := "<init>", desc := "()V" } : Jvm.MethodName) object_method_1_code (1 : Nat) (Option.none : Option Jvm.ClassFile.FieldType)).before args0 about1 = true := code_word (m := ⟨0, 0⟩) (meth := k0m0) (c := k0c0) (by decide +kernel) rfl rfl rfl (by decide +kernel)
set_option maxRecDepth 65536 in
theorem w_c3 : (Jvm.Cond.code ({ cls := "com/example/syncline/syncline/tpcc/LongColumns", name := "allocate", desc := "(I)V" } : Jvm.MethodName) prog_261_method_11_code (4 : Nat) (Option.none : Option Jvm.ClassFile.FieldType)).before args0 about1 = true := code_word (m := ⟨2, 3⟩) (meth := k2m3) (c := k2c3) (by decide +kernel) rfl rfl rfl (by decide +kernel)
set_option maxRecDepth 65536 in
theorem w_c4 : (Jvm.Cond.code ({ cls := "java/lang/Math", name := "max", desc := "(II)I" } : Jvm.MethodName) jdk_29_method_65_code (2 : Nat) (Option.some Jvm.ClassFile.FieldType.int)).before args0 about1 = true := code_word (m := ⟨3, 1⟩) (meth := k3m1) (c := k3c1) (by decide +kernel) rfl rfl rfl (by decide +kernel)
set_option maxRecDepth 65536 in
theorem w_c5 : (Jvm.Cond.code ({ cls := "java/lang/Math", name := "min", desc := "(II)I" } : Jvm.MethodName) jdk_29_method_69_code (2 : Nat) (Option.some Jvm.ClassFile.FieldType.int)).before args0 about1 = true := code_word (m := ⟨3, 2⟩) (meth := k3m2) (c := k3c2) (by decide +kernel) rfl rfl rfl (by decide +kernel)
set_option maxRecDepth 65536 in
theorem w_c6 : (Jvm.Cond.code ({ cls := "com/example/syncline/syncline/tpcc/LongColumns", name := "set", desc := "(IIJ)V" } : Jvm.MethodName) prog_261_method_5_code (5 : Nat) (Option.none : Option Jvm.ClassFile.FieldType)).before args0 about1 = true := code_word (m := ⟨2, 2⟩) (meth := k2m2) (c := k2c2) (by decide +kernel) rfl rfl rfl (by decide +kernel)
set_option maxRecDepth 65536 in
theorem w_c7 : (Jvm.Cond.code ({ cls := "com/example/syncline/syncline/tpcc/LongColumns", name := "get", desc := "(II)J" } : Jvm.MethodName) prog_261_method_4_code (3 : Nat) (Option.some Jvm.ClassFile.FieldType.long)).before args0 about1 = true := code_word (m := ⟨2, 1⟩) (meth := k2m1) (c := k2c1) (by decide +kernel) rfl rfl rfl (by decide +kernel)
def codes1 : List Jvm.Cond := [Jvm.Cond.code x code maxLocals ret, Jvm.Cond.code ({ cls := "com/example/syncline/syncline/tpcc/LongColumns", name := "<init>", desc := "(I)V" } : Jvm.MethodName) prog_261_method_1_code (2 : Nat) (Option.none : Option Jvm.ClassFile.FieldType), Jvm.Cond.code ({ cls := "java/lang/Object", name := "<init>", desc := "()V" } : Jvm.MethodName) object_method_1_code (1 : Nat) (Option.none : Option Jvm.ClassFile.FieldType), Jvm.Cond.code ({ cls := "com/example/syncline/syncline/tpcc/LongColumns", name := "allocate", desc := "(I)V" } : Jvm.MethodName) prog_261_method_11_code (4 : Nat) (Option.none : Option Jvm.ClassFile.FieldType), Jvm.Cond.code ({ cls := "java/lang/Math", name := "max", desc := "(II)I" } : Jvm.MethodName) jdk_29_method_65_code (2 : Nat) (Option.some Jvm.ClassFile.FieldType.int), Jvm.Cond.code ({ cls := "java/lang/Math", name := "min", desc := "(II)I" } : Jvm.MethodName) jdk_29_method_69_code (2 : Nat) (Option.some Jvm.ClassFile.FieldType.int), Jvm.Cond.code ({ cls := "com/example/syncline/syncline/tpcc/LongColumns", name := "set", desc := "(IIJ)V" } : Jvm.MethodName) prog_261_method_5_code (5 : Nat) (Option.none : Option Jvm.ClassFile.FieldType), Jvm.Cond.code ({ cls := "com/example/syncline/syncline/tpcc/LongColumns", name := "get", desc := "(II)J" } : Jvm.MethodName) prog_261_method_4_code (3 : Nat) (Option.some Jvm.ClassFile.FieldType.long)]
set_option maxRecDepth 65536 in
theorem codes_eq : words1.filter isCode = codes1 := rfl
theorem w_codes : ∀ c ∈ words1.filter isCode, c.before args0 about1 = true := by
  rw [codes_eq]
  intro c hc
  simp only [codes1, List.mem_cons, List.not_mem_nil, or_false] at hc
  rcases hc with rfl | rfl | rfl | rfl | rfl | rfl | rfl | rfl
  · exact w_c0
  · exact w_c1
  · exact w_c2
  · exact w_c3
  · exact w_c4
  · exact w_c5
  · exact w_c6
  · exact w_c7
set_option maxRecDepth 65536 in
theorem w_t1 : (words1.take 24).all (fun c => isCode c || c.before args0 about1) = true := by decide +kernel
set_option maxRecDepth 65536 in
theorem w_t2 : ((words1.drop 24).take 24).all (fun c => isCode c || c.before args0 about1) = true := by decide +kernel
set_option maxRecDepth 65536 in
theorem w_t3 : ((words1.drop 24).drop 24).all (fun c => isCode c || c.before args0 about1) = true := by decide +kernel
theorem w_tables : (allAtoms (Jvm.Cond.code x code maxLocals ret :: tables_1)).before args0 about1 = true := by
  rw [allAtoms_all]
  show words1.all (fun c => c.before args0 about1) = true
  refine all_split ?_ w_codes
  rw [← List.take_append_drop 24 words1, List.all_append, w_t1, ← List.take_append_drop 24 (words1.drop 24), List.all_append, w_t2, w_t3]
  rfl
set_option maxRecDepth 65536 in
theorem w_case : (Jvm.Cond.and given_1 narrow_1).before args0 about1 = true := by decide +kernel
theorem w_applies : (headSpec (Jvm.Cond.code x code maxLocals ret :: tables_1) room_1).applies x e0.platform about1 = true :=
  (Spec.applies_iff w_frames).mpr ⟨w_running, w_runnable, w_alone, w_named, w_hears, w_ripe, w_room, w_tables⟩
theorem atStart : AtStart classFile x code maxLocals ret World_1 tables_1 room_1 Calls_1 rest_1 Pre_1 launch0 p0 e0 about1 theMethod args0 below0 :=
  ⟨lists_1, trivial, launch0.admits_env _ _ _, launch0.least_env, fairChoices_fair.cas, fairChoices_fair.clock, w_frames, w_args, w_heap, w_applies, trivial, trivial, w_case⟩
end start1
theorem witness_1 : WitnessClaimed_1 := ⟨start1.p0, start1.e0, start1.about1, start1.theMethod, start1.args0, start1.below0, start1.atStart⟩
end Jvm.Pilot.@@N@@
