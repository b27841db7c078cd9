import JvmDerived
import JvmDerived.Pilot.@@N@@Statement
import JvmDerived.Pilot.@@N@@Code
set_option linter.unusedVariables false
set_option linter.unusedSimpArgs false
namespace Jvm.RoadKit
open Sem ClassFile Op Lib Jvm.Stand Jvm.Free Jvm.LawKit
section OwnKit
variable {p : Program} {l : Launch} {e : Env} {R : Room} {s : State} {m : MethodId} {args : Array Value} {below : List Frame} {meth : Method} {c : Code} {T : State} {locs : List Loc} {cells slots : Nat} {Q : Option Value → Heap → List Loc → Prop} {rc rs : Nat}
theorem retI (X : Stand p l e R s m args below meth c T locs cells slots) (hx : p.tables.exec = Jvm.exec) {pc : Nat} {Ls : Array Slot} {z : Int32} {rest : List Value} (hret : meth.sig.returnType = some .int) (hd : decode c.code pc = .ok (.ireturn, 1)) {fs : List Frame}
    (hl : ∀ (f : JFrame) (acts : List Action), f.method = m → f.locked = none → f.entered = [] → (doReturn e (T.setTop f) acts (some (.int z))).1 = T.setFrames fs) : Steps p.tables e below (T.setTop (mkF m pc Ls (.int z :: rest))) (T.setFrames fs) := by
  have hm' : T.vm.method? m = some meth := X.method'
  have hn : narrow .int (.int z) = .int z := rfl
  show Steps p.tables e below (T.setTop { method := m, pc := pc, locals := Ls, stack := _ :: rest, locked := none }) _
  jvm_step X.here [X.here.top, hx, hd, hm', hret, hn]
  first | (intro acts; rw [hl _ acts rfl rfl rfl]) | rw [hl _ _ rfl rfl rfl]
  exact Steps.refl _
theorem own_retA (X : Stand p l e R s m args below meth c T locs cells slots) (hx : p.tables.exec = Jvm.exec) {pc : Nat} {Ls : Array Slot} {w : Value} {ty : FieldType} {rest : List Value} (hw : w.isRef = true) (hty : ty.isReference = true) (hret : meth.sig.returnType = some ty) (hd : decode c.code pc = .ok (.areturn, 1)) {fs : List Frame}
    (hl : ∀ (f : JFrame) (acts : List Action), f.method = m → f.locked = none → f.entered = [] → (doReturn e (T.setTop f) acts (some w)).1 = T.setFrames fs) : Steps p.tables e below (T.setTop (mkF m pc Ls (w :: rest))) (T.setFrames fs) := by
  have hm' : T.vm.method? m = some meth := X.method'
  show Steps p.tables e below (T.setTop { method := m, pc := pc, locals := Ls, stack := _ :: rest, locked := none }) _
  jvm_step X.here [X.here.top, hx, hd, hm', hret, hw, hty]
  first | (intro acts; rw [hl _ acts rfl rfl rfl]) | rw [hl _ _ rfl rfl rfl]
  exact Steps.refl _
theorem own_retL (X : Stand p l e R s m args below meth c T locs cells slots) (hx : p.tables.exec = Jvm.exec) {pc : Nat} {Ls : Array Slot} {z : Int64} {rest : List Value} (hret : meth.sig.returnType = some .long) (hd : decode c.code pc = .ok (.lreturn, 1)) {fs : List Frame}
    (hl : ∀ (f : JFrame) (acts : List Action), f.method = m → f.locked = none → f.entered = [] → (doReturn e (T.setTop f) acts (some (.long z))).1 = T.setFrames fs) : Steps p.tables e below (T.setTop (mkF m pc Ls (.long z :: rest))) (T.setFrames fs) := by
  have hm' : T.vm.method? m = some meth := X.method'
  show Steps p.tables e below (T.setTop { method := m, pc := pc, locals := Ls, stack := _ :: rest, locked := none }) _
  jvm_step X.here [X.here.top, hx, hd, hm', hret]
  first | (intro acts; rw [hl _ acts rfl rfl rfl]) | rw [hl _ _ rfl rfl rfl]
  exact Steps.refl _
theorem own_retDbl (X : Stand p l e R s m args below meth c T locs cells slots) (hx : p.tables.exec = Jvm.exec) {pc : Nat} {Ls : Array Slot} {z : UInt64} {rest : List Value} (hret : meth.sig.returnType = some .double) (hd : decode c.code pc = .ok (.dreturn, 1)) {fs : List Frame}
    (hl : ∀ (f : JFrame) (acts : List Action), f.method = m → f.locked = none → f.entered = [] → (doReturn e (T.setTop f) acts (some (.double z))).1 = T.setFrames fs) : Steps p.tables e below (T.setTop (mkF m pc Ls (.double z :: rest))) (T.setFrames fs) := by
  have hm' : T.vm.method? m = some meth := X.method'
  show Steps p.tables e below (T.setTop { method := m, pc := pc, locals := Ls, stack := _ :: rest, locked := none }) _
  jvm_step X.here [X.here.top, hx, hd, hm', hret]
  first | (intro acts; rw [hl _ acts rfl rfl rfl]) | rw [hl _ _ rfl rfl rfl]
  exact Steps.refl _
/-- what is left to be shown from the state A on: the run comes back, and Q holds of what it leaves -/
def OwnG (p : Program) (e : Env) (below : List Frame) (s : State) (Q : Option Value → Heap → List Loc → Prop) (rc rs : Nat) (A : State) : Prop :=
  ∃ s₂ o, Steps p.tables e below A s₂ ∧ s₂.status = .running ∧ Ended s₂ below o ∧ ∃ v L, o = .returned v ∧ Q v s₂.heap L ∧ FrameEnd s o s₂ L rc rs
theorem own_by {A B : State} (k : ∀ t, Steps p.tables e below B t → Steps p.tables e below A t) (h : OwnG p e below s Q rc rs B) : OwnG p e below s Q rc rs A := by
  obtain ⟨s₂, o, h1, r⟩ := h
  exact ⟨s₂, o, k _ h1, r⟩
theorem own_out (X : Stand p l e R s m args below meth c T locs cells slots) {v : Option Value} (hv : meth.sig.returnType = none → v = none) (hlk : meth.locks = false) {A : State}
    (k : ∀ fs, (∀ (f : JFrame) (acts : List Action), f.method = m → f.locked = none → f.entered = [] → (doReturn e (T.setTop f) acts v).1 = T.setFrames fs) → Steps p.tables e below A (T.setFrames fs)) (hQ : Q v T.heap locs) (hc : cells ≤ rc) (hs : slots ≤ rs) : OwnG p e below s Q rc rs A := by
  obtain ⟨fs, hr, hrun, hended, hW, hsame⟩ := X.leave (v := v) hv hlk
  exact ⟨_, _, k fs hr, hrun, hended, _, _, rfl, hQ, ⟨_, rfl⟩, hW, hsame.mono hc hs⟩
theorem own_outI (X : Stand p l e R s m args below meth c T locs cells slots) (hx : p.tables.exec = Jvm.exec) {pc : Nat} {Ls : Array Slot} {z : Int32} {rest : List Value} (hret : meth.sig.returnType = some .int) (hlk : meth.locks = false) (hd : decode c.code pc = .ok (.ireturn, 1)) (hQ : Q (some (.int z)) T.heap locs) (hc : cells ≤ rc) (hs : slots ≤ rs) :
    OwnG p e below s Q rc rs (T.setTop (mkF m pc Ls (.int z :: rest))) :=
  own_out X (v := some (.int z)) (fun h => by rw [hret] at h; cases h) hlk (fun fs hr => retI X hx hret hd hr) hQ hc hs
theorem own_outA (X : Stand p l e R s m args below meth c T locs cells slots) (hx : p.tables.exec = Jvm.exec) {pc : Nat} {Ls : Array Slot} {w : Value} {ty : FieldType} {rest : List Value} (hw : w.isRef = true) (hty : ty.isReference = true) (hret : meth.sig.returnType = some ty) (hlk : meth.locks = false) (hd : decode c.code pc = .ok (.areturn, 1)) (hQ : Q (some w) T.heap locs) (hc : cells ≤ rc) (hs : slots ≤ rs) :
    OwnG p e below s Q rc rs (T.setTop (mkF m pc Ls (w :: rest))) :=
  own_out X (v := some w) (fun h => by rw [hret] at h; cases h) hlk (fun fs hr => own_retA X hx hw hty hret hd hr) hQ hc hs
theorem own_outL (X : Stand p l e R s m args below meth c T locs cells slots) (hx : p.tables.exec = Jvm.exec) {pc : Nat} {Ls : Array Slot} {z : Int64} {rest : List Value} (hret : meth.sig.returnType = some .long) (hlk : meth.locks = false) (hd : decode c.code pc = .ok (.lreturn, 1)) (hQ : Q (some (.long z)) T.heap locs) (hc : cells ≤ rc) (hs : slots ≤ rs) :
    OwnG p e below s Q rc rs (T.setTop (mkF m pc Ls (.long z :: rest))) :=
  own_out X (v := some (.long z)) (fun h => by rw [hret] at h; cases h) hlk (fun fs hr => own_retL X hx hret hd hr) hQ hc hs
theorem own_outD (X : Stand p l e R s m args below meth c T locs cells slots) (hx : p.tables.exec = Jvm.exec) {pc : Nat} {Ls : Array Slot} {z : UInt64} {rest : List Value} (hret : meth.sig.returnType = some .double) (hlk : meth.locks = false) (hd : decode c.code pc = .ok (.dreturn, 1)) (hQ : Q (some (.double z)) T.heap locs) (hc : cells ≤ rc) (hs : slots ≤ rs) :
    OwnG p e below s Q rc rs (T.setTop (mkF m pc Ls (.double z :: rest))) :=
  own_out X (v := some (.double z)) (fun h => by rw [hret] at h; cases h) hlk (fun fs hr => own_retDbl X hx hret hd hr) hQ hc hs
theorem own_outV (X : Stand p l e R s m args below meth c T locs cells slots) (hx : p.tables.exec = Jvm.exec) {pc : Nat} {Ls : Array Slot} (hret : meth.sig.returnType = none) (hlk : meth.locks = false) (hd : decode c.code pc = .ok (.return_, 1)) (hQ : Q none T.heap locs) (hc : cells ≤ rc) (hs : slots ≤ rs) :
    OwnG p e below s Q rc rs (T.setTop (mkF m pc Ls [])) :=
  own_out X (v := none) (fun _ => rfl) hlk (fun fs hr => X.returnOut hx hret hd hr) hQ hc hs
theorem own_outN (X : Stand p l e R s m args below meth c T locs cells slots) (hx : p.tables.exec = Jvm.exec) {pc : Nat} {Ls : Array Slot} {z z' : Int32} {t : FieldType} {rest : List Value} (hret : meth.sig.returnType = some t) (ht : t = .boolean ∨ t = .byte ∨ t = .char ∨ t = .short) (hlk : meth.locks = false) (hd : decode c.code pc = .ok (.ireturn, 1)) (hz : nar t z = z') (hQ : Q (some (.int z')) T.heap locs) (hc : cells ≤ rc) (hs : slots ≤ rs) :
    OwnG p e below s Q rc rs (T.setTop (mkF m pc Ls (.int z :: rest))) := by
  subst hz
  exact own_out X (v := some (.int (nar t z))) (fun h => by rw [hret] at h; cases h) hlk (fun fs hr => retN X hx (t := t) hret (by rcases ht with rfl | rfl | rfl | rfl <;> simp) hd hr) hQ hc hs
theorem own_met {y : MethodName} {bytes : ByteArray} {maxL : Nat} {ret : Option FieldType} {rm : Room} {ws : List Cond} {as' : Array Value} {Z : State} {h0 : Heap} (hpl : plainFor y = true)
    (body : ∀ (p : Program) (e : Env) (s : State) (m : MethodId) (below : List Frame) (meth : Method) (c : Code) (s₁ : State), p.tables.exec = Jvm.exec → c.code = bytes → c.maxLocals = maxL → meth.sig.returnType = ret → meth.locks = false → s.vm.findClass y.cls = some m.cls → meth.name = y.name → Z.Warmed39 s.vm →
      Stand p l e rm s m as' below meth c s₁ [] 0 0 → s₁.heap = h0 → OwnG p e below s Q rm.cells rm.slots (s₁.setTop (entryFrame m as' maxL))) :
    MetFree l y (head1 (Cond.code y bytes maxL ret :: ws) rm) (fun a U => a = as' ∧ Z.Warmed39 U.vm ∧ U.heap = h0) (fun _ _ _ _ _ => True) (fun _ U o U' => ∃ v L, o = .returned v ∧ Q v U'.heap L ∧ FrameEnd U o U' L rm.cells rm.slots) := by
  refine MetFree.of_bodySF hpl hisR ?_
  intro p e s m args below meth c s₁ Bd hml0 hP hK
  obtain ⟨rfl, hZ, hh⟩ := hP
  have e0 : s₁.heap = h0 := by rw [← hh, Bd.state]; rfl
  exact body p e s m below meth c s₁ Bd.exec Bd.bytes hml0 Bd.returns Bd.notSynchronized (findClass_of_methodNamed Bd.named) (name_of_methodNamed Bd.named Bd.method).1 hZ (Stand.of_body Bd) e0
theorem own_pop2J {tb : Tables} [Ours tb] {target : State} {g : JFrame} (h : At T m c below) (hx : tb.exec = Jvm.exec) (hg : g.method = m) {x : Int64} {rest : List Value} (hd : decode c.code g.pc = .ok (.pop2, 1)) (hs : g.stack = .long x :: rest)
    (hr : Steps tb e below (T.setTop { g with pc := g.pc + 1, stack := rest }) target) : Steps tb e below (T.setTop g) target := by
  subst hg
  jvm_step h [h.top, hx, hd, hs, Value.category]
  exact hr
theorem own_dup2I {tb : Tables} [Ours tb] {target : State} {g : JFrame} (h : At T m c below) (hx : tb.exec = Jvm.exec) (hg : g.method = m) {x : Int32} {a : Addr} {rest : List Value} (hd : decode c.code g.pc = .ok (.dup2, 1)) (hs : g.stack = .int x :: .ref a :: rest)
    (hr : Steps tb e below (T.setTop { g with pc := g.pc + 1, stack := .int x :: .ref a :: .int x :: .ref a :: rest }) target) : Steps tb e below (T.setTop g) target := by
  subst hg
  jvm_step h [h.top, hx, hd, hs, Value.category]
  exact hr
theorem own_selp {Z s : State} {a0 args : Array Value} {y : MethodName} {n : Nat} (hZ : Z.Warmed39 s.vm) (wi : (Cond.instantiable y.cls n).before a0 Z = true) (wp : (Cond.privateMethod y).before a0 Z = true) (wm : (Cond.instanceMethod y).before a0 Z = true) (hy : y.cls ≠ "java/lang/invoke/MethodHandle" ∧ y.cls ≠ "java/lang/invoke/VarHandle") : (Cond.selects y.cls y y).before args s = true := by
  obtain ⟨c, k, h1, h2, -, h4, -⟩ := Cond.instantiable_spec (mv (args := args) hZ wi)
  exact selects_self_of_private h1 h2 (Bool.or_eq_false_iff.mp h4).1 (Cond.privateMethod_at (mvP hZ wp (args := #[]))) (mvT hZ wm) hy
end OwnKit
end Jvm.RoadKit
namespace Jvm.RoadKit
open Sem ClassFile Op Lib Jvm.Stand Jvm.Free Jvm.LawKit
section OwnArr
variable {p : Program} {l : Launch} {e : Env} {R : Room} {s : State} {m : MethodId} {args : Array Value} {below : List Frame} {meth : Method} {c : Code} {T : State} {locs : List Loc} {cells slots : Nat} {Z : State} {h h' : Heap} {a b : Addr} {ty : FieldType} {n : Nat} {f : Nat → Value}
/-- the array at a: its kind, its length, its components as a function of the place -/
def OwnA (Z : State) (h : Heap) (a : Addr) (ty : FieldType) (n : Nat) (f : Nat → Value) : Prop := ∃ c : Cell, Arr Z h a c ty ∧ c.slots.size = n ∧ n < 2 ^ 31 ∧ ∀ k, k < n → c.slots[k]? = some (f k)
def ownSet (f : Nat → Value) (i : Nat) (v : Value) : Nat → Value := fun k => if k = i then v else f k
theorem OwnA.lt (A : OwnA Z h a ty n f) : a < h.size := by obtain ⟨c, A, -⟩ := A; exact A.lt
theorem OwnA.ext (E : Ext h h') (A : OwnA Z h a ty n f) : OwnA Z h' a ty n f := by obtain ⟨c, A, r⟩ := A; exact ⟨c, A.ext E, r⟩
theorem OwnA.other {sl : Nat} {v : Value} (W : Wr h h' b sl v) (A : OwnA Z h a ty n f) (q : a ≠ b) : OwnA Z h' a ty n f := by obtain ⟨c, A, r⟩ := A; exact ⟨c, A.other W q, r⟩
theorem OwnA.keep {ws : List Addr} (A : OwnA Z h a ty n f) (K : Keep h h' ws) (q : a ∉ ws) : OwnA Z h' a ty n f := by obtain ⟨c, A, r⟩ := A; exact ⟨c, ⟨K.2.1 a c A.1 q, A.2⟩, r⟩
theorem OwnA.set {i : Nat} {v : Value} (W : Wr h h' a i v) (A : OwnA Z h a ty n f) (hi : i < n) : OwnA Z h' a ty n (ownSet f i v) := by
  obtain ⟨c, A, hn, hb, r⟩ := A
  refine ⟨_, A.same W, by simp [Cell.setSlot, hn], hb, fun k hk => ?_⟩
  by_cases e : k = i
  · subst e
    simp [Cell.setSlot, ownSet, hn, hi]
  · simp only [ownSet, if_neg e]
    rw [← r k hk]
    exact Array.getElem?_setIfInBounds_ne (Ne.symm e)
theorem OwnA.new {k : ClassId} {z : Int32} (A : Arr Z h a (newA k ty z) ty) {n : Nat} (q : ¬ z < 0) (hn : z.toNatClampNeg = n) : OwnA Z h a ty n (fun _ => defaultValue ty) := by
  subst hn
  refine ⟨_, A, sz_new _ _ _, (back32 q).2, fun i hi => ?_⟩
  simp [newA, hi]
theorem OwnA.bound (A : OwnA Z h a ty n f) : n < 2 ^ 31 := by obtain ⟨_, _, _, hb, _⟩ := A; exact hb
theorem OwnA.congr {f' : Nat → Value} (A : OwnA Z h a ty n f) (q : ∀ k, k < n → f k = f' k) : OwnA Z h a ty n f' := by
  obtain ⟨c, A, hn, hb, r⟩ := A
  exact ⟨c, A, hn, hb, fun k hk => by rw [r k hk, q k hk]⟩
theorem own_inb {c : Cell} {j : Int32} {i : Nat} (hn : c.slots.size = n) (hj : ¬ j < 0 ∧ j.toNatClampNeg = i ∧ i < n) : ¬ (j < 0 ∨ c.slots.size ≤ j.toNatClampNeg) := by
  rintro (q | q)
  · exact hj.1 q
  · rw [hn, hj.2.1] at q; exact absurd hj.2.2 (Nat.not_lt.mpr q)
theorem own_ldI (X : Stand p l e R s m args below meth c T locs cells slots) (hx : p.tables.exec = Jvm.exec) (hZ : Z.Warmed39 s.vm) (eT : T.heap = h) (A : OwnA Z h a .int n f) {j : Int32} {i : Nat} (hj : ¬ j < 0 ∧ j.toNatClampNeg = i ∧ i < n) {v : Value} (hv : f i = v) {g : JFrame} (hg : g.method = m) {rest : List Value} (hs : g.stack = .int j :: .ref a :: rest) (hd : decode c.code g.pc = .ok (.iaload, 1)) (target : State)
    (k : Steps p.tables e below (T.setTop { g with pc := g.pc + 1, stack := v :: rest }) target) : Steps p.tables e below (T.setTop g) target := by
  obtain ⟨cl, A, hn, hb, r⟩ := A
  exact X.iaload hx (j := j) (v := v) (by rw [eT]; exact A.1) (State.isArrayOf_alike hZ.alike A.2.1) A.2.2 (own_inb hn hj) (by rw [hj.2.1, r i hj.2.2, hv]) hg hs hd target k
theorem own_ldB (X : Stand p l e R s m args below meth c T locs cells slots) (hx : p.tables.exec = Jvm.exec) (hZ : Z.Warmed39 s.vm) (eT : T.heap = h) (A : OwnA Z h a .byte n f) {j : Int32} {i : Nat} (hj : ¬ j < 0 ∧ j.toNatClampNeg = i ∧ i < n) {v : Value} (hv : f i = v) {g : JFrame} (hg : g.method = m) {rest : List Value} (hs : g.stack = .int j :: .ref a :: rest) (hd : decode c.code g.pc = .ok (.baload, 1)) (target : State)
    (k : Steps p.tables e below (T.setTop { g with pc := g.pc + 1, stack := v :: rest }) target) : Steps p.tables e below (T.setTop g) target := by
  obtain ⟨cl, A, hn, hb, r⟩ := A
  exact X.baloadBytes hx (j := j) (v := v) (by rw [eT]; exact A.1) (State.isArrayOf_alike hZ.alike A.2.1) A.2.2 (own_inb hn hj) (by rw [hj.2.1, r i hj.2.2, hv]) hg hs hd target k
theorem own_ldJ (X : Stand p l e R s m args below meth c T locs cells slots) (hx : p.tables.exec = Jvm.exec) (hZ : Z.Warmed39 s.vm) (eT : T.heap = h) (A : OwnA Z h a .long n f) {j : Int32} {i : Nat} (hj : ¬ j < 0 ∧ j.toNatClampNeg = i ∧ i < n) {v : Value} (hv : f i = v) {g : JFrame} (hg : g.method = m) {rest : List Value} (hs : g.stack = .int j :: .ref a :: rest) (hd : decode c.code g.pc = .ok (.laload, 1)) (target : State)
    (k : Steps p.tables e below (T.setTop { g with pc := g.pc + 1, stack := v :: rest }) target) : Steps p.tables e below (T.setTop g) target := by
  obtain ⟨cl, A, hn, hb, r⟩ := A
  exact X.laload hx (j := j) (v := v) (by rw [eT]; exact A.1) (State.isArrayOf_alike hZ.alike A.2.1) A.2.2 (own_inb hn hj) (by rw [hj.2.1, r i hj.2.2, hv]) hg hs hd target k
theorem own_ldR (X : Stand p l e R s m args below meth c T locs cells slots) (hx : p.tables.exec = Jvm.exec) (hZ : Z.Warmed39 s.vm) (eT : T.heap = h) (A : OwnA Z h a ty n f) {j : Int32} {i : Nat} (hj : ¬ j < 0 ∧ j.toNatClampNeg = i ∧ i < n) {v : Value} (hv : f i = v) (hty : ty.isReference = true) {g : JFrame} (hg : g.method = m) {rest : List Value} (hs : g.stack = .int j :: .ref a :: rest) (hd : decode c.code g.pc = .ok (.aaload, 1)) (target : State)
    (k : Steps p.tables e below (T.setTop { g with pc := g.pc + 1, stack := v :: rest }) target) : Steps p.tables e below (T.setTop g) target := by
  obtain ⟨cl, A, hn, hb, r⟩ := A
  exact X.aaload hx (j := j) (v := v) (by rw [eT]; exact A.1) (State.isArrayOf_alike hZ.alike A.2.1) hty A.2.2 (own_inb hn hj) (by rw [hj.2.1, r i hj.2.2, hv]) hg hs hd target k
theorem own_len (X : Stand p l e R s m args below meth c T locs cells slots) (hx : p.tables.exec = Jvm.exec) (hZ : Z.Warmed39 s.vm) (eT : T.heap = h) (A : OwnA Z h a ty n f) {z : Int32} (hz : n.toInt32 = z) {g : JFrame} (hg : g.method = m) {rest : List Value} (hs : g.stack = .ref a :: rest) (hd : decode c.code g.pc = .ok (.arraylength, 1)) (target : State)
    (k : Steps p.tables e below (T.setTop { g with pc := g.pc + 1, stack := .int z :: rest }) target) : Steps p.tables e below (T.setTop g) target := by
  obtain ⟨cl, A, hn, hb, r⟩ := A
  refine X.arraylength hx (by rw [eT]; exact A.1) (State.isArrayOf_alike hZ.alike A.2.1) hg hs hd target ?_
  rw [hn, hz]; exact k
theorem own_stI (X : Stand p l e R s m args below meth c T locs cells slots) (hx : p.tables.exec = Jvm.exec) (hZ : Z.Warmed39 s.vm) (eT : T.heap = h) (A : OwnA Z h a .int n f) {j : Int32} {i : Nat} (hj : ¬ j < 0 ∧ j.toNatClampNeg = i ∧ i < n) {x : Int32} {g : JFrame} (hg : g.method = m) {rest : List Value} (hs : g.stack = .int x :: .int j :: .ref a :: rest) (hd : decode c.code g.pc = .ok (.iastore, 1)) :
    ∃ T' h', Stand p l e R s m args below meth c T' (locs ++ [⟨a, i⟩]) cells slots ∧ T'.heap = h' ∧ Wr h h' a i (.int x) ∧ OwnA Z h' a .int n (ownSet f i (.int x)) ∧ ∀ target, Steps p.tables e below (T'.setTop { g with pc := g.pc + 1, stack := rest }) target → Steps p.tables e below (T.setTop g) target := by
  obtain ⟨cl, A', hn, hb, r⟩ := A
  obtain ⟨T', h', X', e', W, st⟩ := stI X hx hZ eT A' (j := j) (x := x) (own_inb hn hj) hg hs hd
  rw [hj.2.1] at X' W
  exact ⟨T', h', X', e', W, OwnA.set W ⟨cl, A', hn, hb, r⟩ hj.2.2, st⟩
theorem own_stJ (X : Stand p l e R s m args below meth c T locs cells slots) (hx : p.tables.exec = Jvm.exec) (hZ : Z.Warmed39 s.vm) (eT : T.heap = h) (A : OwnA Z h a .long n f) {j : Int32} {i : Nat} (hj : ¬ j < 0 ∧ j.toNatClampNeg = i ∧ i < n) {x : Int64} {g : JFrame} (hg : g.method = m) {rest : List Value} (hs : g.stack = .long x :: .int j :: .ref a :: rest) (hd : decode c.code g.pc = .ok (.lastore, 1)) :
    ∃ T' h', Stand p l e R s m args below meth c T' (locs ++ [⟨a, i⟩]) cells slots ∧ T'.heap = h' ∧ Wr h h' a i (.long x) ∧ OwnA Z h' a .long n (ownSet f i (.long x)) ∧ ∀ target, Steps p.tables e below (T'.setTop { g with pc := g.pc + 1, stack := rest }) target → Steps p.tables e below (T.setTop g) target := by
  obtain ⟨cl, A', hn, hb, r⟩ := A
  obtain ⟨T', h', X', e', W, st⟩ := stJ X hx hZ eT A' (j := j) (x := x) (own_inb hn hj) hg hs hd
  rw [hj.2.1] at X' W
  exact ⟨T', h', X', e', W, OwnA.set W ⟨cl, A', hn, hb, r⟩ hj.2.2, st⟩
theorem own_stB (X : Stand p l e R s m args below meth c T locs cells slots) (hx : p.tables.exec = Jvm.exec) (hZ : Z.Warmed39 s.vm) (eT : T.heap = h) (A : OwnA Z h a .byte n f) {j : Int32} {i : Nat} (hj : ¬ j < 0 ∧ j.toNatClampNeg = i ∧ i < n) {x : Int32} {g : JFrame} (hg : g.method = m) {rest : List Value} (hs : g.stack = .int x :: .int j :: .ref a :: rest) (hd : decode c.code g.pc = .ok (.bastore, 1)) :
    ∃ T' h', Stand p l e R s m args below meth c T' (locs ++ [⟨a, i⟩]) cells slots ∧ T'.heap = h' ∧ Wr h h' a i (.int (nar .byte x)) ∧ OwnA Z h' a .byte n (ownSet f i (.int (nar .byte x))) ∧ ∀ target, Steps p.tables e below (T'.setTop { g with pc := g.pc + 1, stack := rest }) target → Steps p.tables e below (T.setTop g) target := by
  obtain ⟨cl, A', hn, hb, r⟩ := A
  obtain ⟨T', h', X', e', W, st⟩ := stB X hx hZ eT A' (j := j) (x := x) (own_inb hn hj) hg hs hd
  rw [hj.2.1] at X' W
  exact ⟨T', h', X', e', W, OwnA.set W ⟨cl, A', hn, hb, r⟩ hj.2.2, st⟩
theorem own_ldC (X : Stand p l e R s m args below meth c T locs cells slots) (hx : p.tables.exec = Jvm.exec) (hZ : Z.Warmed39 s.vm) (eT : T.heap = h) (A : OwnA Z h a .char n f) {j : Int32} {i : Nat} (hj : ¬ j < 0 ∧ j.toNatClampNeg = i ∧ i < n) {v : Value} (hv : f i = v) {g : JFrame} (hg : g.method = m) {rest : List Value} (hs : g.stack = .int j :: .ref a :: rest) (hd : decode c.code g.pc = .ok (.caload, 1)) (target : State)
    (k : Steps p.tables e below (T.setTop { g with pc := g.pc + 1, stack := v :: rest }) target) : Steps p.tables e below (T.setTop g) target := by
  obtain ⟨cl, A, hn, hb, r⟩ := A
  exact X.caload hx (j := j) (v := v) (by rw [eT]; exact A.1) (State.isArrayOf_alike hZ.alike A.2.1) A.2.2 (own_inb hn hj) (by rw [hj.2.1, r i hj.2.2, hv]) hg hs hd target k
theorem own_stC (X : Stand p l e R s m args below meth c T locs cells slots) (hx : p.tables.exec = Jvm.exec) (hZ : Z.Warmed39 s.vm) (eT : T.heap = h) (A : OwnA Z h a .char n f) {j : Int32} {i : Nat} (hj : ¬ j < 0 ∧ j.toNatClampNeg = i ∧ i < n) {x : Int32} {g : JFrame} (hg : g.method = m) {rest : List Value} (hs : g.stack = .int x :: .int j :: .ref a :: rest) (hd : decode c.code g.pc = .ok (.castore, 1)) :
    ∃ T' h', Stand p l e R s m args below meth c T' (locs ++ [⟨a, i⟩]) cells slots ∧ T'.heap = h' ∧ Wr h h' a i (.int (nar .char x)) ∧ OwnA Z h' a .char n (ownSet f i (.int (nar .char x))) ∧ ∀ target, Steps p.tables e below (T'.setTop { g with pc := g.pc + 1, stack := rest }) target → Steps p.tables e below (T.setTop g) target := by
  obtain ⟨cl, A', hn, hb, r⟩ := A
  obtain ⟨T', h', X', e', W, st⟩ := stC X hx hZ eT A' (j := j) (x := x) (own_inb hn hj) hg hs hd
  rw [hj.2.1] at X' W
  exact ⟨T', h', X', e', W, OwnA.set W ⟨cl, A', hn, hb, r⟩ hj.2.2, st⟩
theorem own_ldD (X : Stand p l e R s m args below meth c T locs cells slots) (hx : p.tables.exec = Jvm.exec) (hZ : Z.Warmed39 s.vm) (eT : T.heap = h) (A : OwnA Z h a .double n f) {j : Int32} {i : Nat} (hj : ¬ j < 0 ∧ j.toNatClampNeg = i ∧ i < n) {v : Value} (hv : f i = v) {g : JFrame} (hg : g.method = m) {rest : List Value} (hs : g.stack = .int j :: .ref a :: rest) (hd : decode c.code g.pc = .ok (.daload, 1)) (target : State)
    (k : Steps p.tables e below (T.setTop { g with pc := g.pc + 1, stack := v :: rest }) target) : Steps p.tables e below (T.setTop g) target := by
  obtain ⟨cl, A, hn, hb, r⟩ := A
  exact X.daload hx (j := j) (v := v) (by rw [eT]; exact A.1) (State.isArrayOf_alike hZ.alike A.2.1) A.2.2 (own_inb hn hj) (by rw [hj.2.1, r i hj.2.2, hv]) hg hs hd target k
theorem own_stD (X : Stand p l e R s m args below meth c T locs cells slots) (hx : p.tables.exec = Jvm.exec) (hZ : Z.Warmed39 s.vm) (eT : T.heap = h) (A : OwnA Z h a .double n f) {j : Int32} {i : Nat} (hj : ¬ j < 0 ∧ j.toNatClampNeg = i ∧ i < n) {x : UInt64} {g : JFrame} (hg : g.method = m) {rest : List Value} (hs : g.stack = .double x :: .int j :: .ref a :: rest) (hd : decode c.code g.pc = .ok (.dastore, 1)) :
    ∃ T' h', Stand p l e R s m args below meth c T' (locs ++ [⟨a, i⟩]) cells slots ∧ T'.heap = h' ∧ Wr h h' a i (.double x) ∧ OwnA Z h' a .double n (ownSet f i (.double x)) ∧ ∀ target, Steps p.tables e below (T'.setTop { g with pc := g.pc + 1, stack := rest }) target → Steps p.tables e below (T.setTop g) target := by
  obtain ⟨cl, A', hn, hb, r⟩ := A
  obtain ⟨T', h', X', e', W, st⟩ := stD X hx hZ eT A' (j := j) (x := x) (own_inb hn hj) hg hs hd
  rw [hj.2.1] at X' W
  exact ⟨T', h', X', e', W, OwnA.set W ⟨cl, A', hn, hb, r⟩ hj.2.2, st⟩
end OwnArr
end Jvm.RoadKit
namespace Jvm.Pilot.@@N@@
open Jvm Jvm.ClassFile Sem Op Lib Jvm.Free Jvm.Stand Jvm.LawKit Jvm.RoadKit Bundle Jvm.Pilot.@@N@@.Jvm.D
theorem own_ofNat (i : Nat) (h : i < 2 ^ 31) : i.toInt32.toInt = i := len_toInt h
theorem own_z : (0 : Int32).toInt = 0 := by decide
theorem own_irem (x y : Int32) : x - (x / y) * y = x % y := Jvm.irem_eq_mod x y
theorem own_max31 (x : Int32) : 0 ≤ (x &&& 2147483647).toInt := by
  rw [c_mask x 2147483647 31 (by decide) (by decide)]
  exact Int.emod_nonneg _ (by decide)
theorem own_rem (x y : Int32) (T : Nat) (hT : T < 1000) (hy : y = (T + 1).toInt32) : ∃ k : Nat, k ≤ T ∧ (x &&& 2147483647) - ((x &&& 2147483647) / y) * y = k.toInt32 := by
  have h := own_max31 x
  generalize x &&& 2147483647 = z at *
  have ey : y.toInt = ((T + 1 : Nat) : Int) := by rw [hy]; exact own_ofNat _ (by omega)
  have hz := (c_irem z y _ ey).1 h
  have b1 := Int.emod_nonneg z.toInt (show ((T + 1 : Nat) : Int) ≠ 0 from by omega)
  have b2 := Int.emod_lt_of_pos z.toInt (show (0 : Int) < ((T + 1 : Nat) : Int) from by omega)
  refine ⟨(z.toInt % ((T + 1 : Nat) : Int)).toNat, by omega, ?_⟩
  rw [own_irem]
  apply Int32.toInt_inj.mp
  rw [hz, own_ofNat _ (by omega)]
  omega
theorem own_addN (x y : Nat) : x.toInt32 + y.toInt32 = (x + y).toInt32 := (Int32.ofNat_add x y).symm
theorem own_nzN {x : Nat} (h : 0 < x) (hx : x < 2 ^ 31) : x.toInt32 ≠ 0 := fun q => by
  have := congrArg Int32.toInt q
  rw [own_ofNat _ hx, own_z] at this
  omega
/-- the rate's bounds -/
def ownB (R : Int64) : Prop := 0 ≤ R.toInt ∧ R.toInt < 368934881474191033
theorem own_rate (r : Int64) : ownB ((r &&& 9223372036854775807) - ((r &&& 9223372036854775807) / 368934881474191033) * 368934881474191033) := by
  have h : 0 ≤ (r &&& 9223372036854775807).toInt := by
    rw [c_maskL r 9223372036854775807 63 (by decide) (by decide)]
    exact Int.emod_nonneg _ (by decide)
  have e := (c_lrem (r &&& 9223372036854775807) 368934881474191033 368934881474191033 (by decide)).1 h
  unfold ownB
  rw [e]
  exact ⟨Int.emod_nonneg _ (by decide), Int.emod_lt_of_pos _ (by decide)⟩
theorem own_l (k : Nat) (h : k < 2 ^ 31) : k.toInt32.toInt64.toInt = k := by
  rw [Int32.toInt_toInt64, own_ofNat k h]
theorem own_prod (k : Nat) (hk : k ≤ 25) (R : Int64) (hR : ownB R) : (k.toInt32.toInt64 * R).toInt = (k : Int) * R.toInt ∧ 0 ≤ (k : Int) * R.toInt ∧ (k : Int) * R.toInt ≤ 25 * R.toInt := by
  have h1 : (k : Int) * R.toInt ≤ 25 * R.toInt := Int.mul_le_mul_of_nonneg_right (by omega) hR.1
  have h0 : 0 ≤ (k : Int) * R.toInt := Int.mul_nonneg (by omega) hR.1
  have e := c_lmul k.toInt32.toInt64 R
  rw [own_l k (by omega)] at e
  have b := rng64 (k.toInt32.toInt64 * R)
  have := hR.2
  exact ⟨by omega, h0, h1⟩
theorem own_0R (R : Int64) : (0 : Int32).toInt64 * R = 0 := by
  show (0 : Int64) * R = 0
  exact Int64.zero_mul
theorem own_restE (R H' : Int64) : R * H' - 0 = H' * R := by rw [Int64.sub_zero, Int64.mul_comm]
theorem own_zdiv (R : Int64) : (0 : Int64) / R = 0 := by
  apply Int64.toInt_inj.mp
  rw [Int64.toInt_div]
  show Int.bmod (Int.tdiv 0 R.toInt) _ = 0
  rw [Int.zero_tdiv]; decide
theorem own_zrem (R : Int64) : (0 : Int64) - (0 / R) * R = 0 := by rw [own_zdiv, Int64.zero_mul, Int64.sub_zero]
theorem own_pos {R : Int64} (h : ownB R) (h0 : ¬ R = 0) : (0 : Int64) < R := by
  rw [Int64.lt_iff_toInt_lt]
  have : R.toInt ≠ 0 := fun q => h0 (Int64.toInt_inj.mp (by rw [q]; decide))
  have := h.1
  show (0 : Int) < R.toInt
  omega
theorem own_posS {R : Int64} (h : (0 : Int64) < R) : (0 : Int64) < R - 0 := by rw [Int64.sub_zero]; exact h
theorem own_Epos {H : Nat} {R : Int64} (hR : ownB R) (h0 : ¬ R = 0) (hH : 1 ≤ H) (hH2 : H ≤ 25) : (0 : Int64) < H.toInt32.toInt64 * R := by
  have p := own_pos hR h0
  rw [Int64.lt_iff_toInt_lt] at p ⊢
  have e := own_prod H hH2 R hR
  have z : (0 : Int64).toInt = 0 := by decide
  rw [e.1, z]
  rw [z] at p
  exact Int.mul_pos (by omega) p
theorem own_le {k H : Nat} {R : Int64} (hR : ownB R) (hk : k ≤ H) (hH : H ≤ 25) : ¬ H.toInt32.toInt64 * R < k.toInt32.toInt64 * R := by
  rw [Int64.lt_iff_toInt_lt, (own_prod H hH R hR).1, (own_prod k (by omega) R hR).1]
  have : (k : Int) * R.toInt ≤ (H : Int) * R.toInt := Int.mul_le_mul_of_nonneg_right (by omega) hR.1
  omega
theorem own_min {k H : Nat} {R : Int64} (hR : ownB R) (hk : k ≤ H) (hH : H ≤ 25) : k.toInt32.toInt64 * R = (if k.toInt32.toInt64 * R < H.toInt32.toInt64 * R then k.toInt32.toInt64 * R else H.toInt32.toInt64 * R) := by
  by_cases q : k.toInt32.toInt64 * R < H.toInt32.toInt64 * R
  · rw [if_pos q]
  · rw [if_neg q]
    have q2 := own_le hR hk hH
    rw [Int64.lt_iff_toInt_lt] at q q2
    exact Int64.toInt_inj.mp (by omega)
theorem own_maxz {k : Nat} {R : Int64} (hR : ownB R) (hk : k ≤ 25) : k.toInt32.toInt64 * R = (if (0 : Int64) < k.toInt32.toInt64 * R - 0 then k.toInt32.toInt64 * R - 0 else 0) := by
  rw [Int64.sub_zero]
  by_cases q : (0 : Int64) < k.toInt32.toInt64 * R
  · rw [if_pos q]
  · rw [if_neg q]
    have e := own_prod k hk R hR
    rw [Int64.lt_iff_toInt_lt] at q
    have z : (0 : Int64).toInt = 0 := by decide
    exact Int64.toInt_inj.mp (by omega)
theorem own_subN {H k : Nat} (hk : k ≤ H) (hH : H ≤ 25) : H.toInt32 - k.toInt32 = (H - k).toInt32 := by
  apply Int32.toInt_inj.mp
  have := c_isub H.toInt32 k.toInt32
  have := rng32 (H.toInt32 - k.toInt32)
  rw [own_ofNat H (by omega), own_ofNat k (by omega)] at *
  rw [own_ofNat (H - k) (by omega)]
  omega
theorem own_f1 {k H : Nat} {R : Int64} (hR : ownB R) (hk : k ≤ H) (hH : H ≤ 25) : k.toInt32.toInt64 * R + (H.toInt32 - k.toInt32).toInt64 * R = R * H.toInt32.toInt64 := by
  rw [own_subN hk hH, Int64.mul_comm R]
  apply Int64.toInt_inj.mp
  have e1 := own_prod k (by omega) R hR
  have e2 := own_prod (H - k) (by omega) R hR
  have e3 := own_prod H hH R hR
  have e4 := c_ladd (k.toInt32.toInt64 * R) ((H - k).toInt32.toInt64 * R)
  have b := rng64 (k.toInt32.toInt64 * R + (H - k).toInt32.toInt64 * R)
  have s : (H : Int) * R.toInt = (k : Int) * R.toInt + ((H - k : Nat) : Int) * R.toInt := by
    rw [← Int.add_mul]
    congr 1
    omega
  have := hR.2
  omega
theorem own_f2 {k H : Nat} {R : Int64} (hR : ownB R) (hk : k ≤ H) (hH : H ≤ 25) : ¬ (H.toInt32 - k.toInt32).toInt64 * R < 0 := by
  rw [own_subN hk hH, Int64.lt_iff_toInt_lt]
  have e2 := own_prod (H - k) (by omega) R hR
  have z : (0 : Int64).toInt = 0 := by decide
  omega
theorem own_f3 {k H : Nat} {R : Int64} (hR : ownB R) (hk : k ≤ H) (hH : H ≤ 25) : ¬ R * H.toInt32.toInt64 < (H.toInt32 - k.toInt32).toInt64 * R := by
  rw [own_subN hk hH, Int64.mul_comm R]
  exact own_le hR (by omega) hH
theorem own_f4 {H : Nat} {R : Int64} (hH : H ≤ 25) : (H.toInt32 - H.toInt32).toInt64 * R = 0 := by
  rw [own_subN (Nat.le_refl H) hH, Nat.sub_self]
  exact own_0R R
theorem own_staK {Z : State} {h h' : Heap} {C n d K : String} {v : Value} {a : Addr} (F : Sta Z h C n d v) (K0 : Keep h h' [a]) (E : Exa Z h a K) : Sta Z h' C n d v := by
  obtain ⟨cf, i, k, f, st, cell, h1, h2, h3, h4, h5, h6, h7⟩ := F
  refine ⟨cf, i, k, f, st, cell, h1, h2, h3, h4, K0.2.1 st cell h5 (fun q => ?_), h6, h7⟩
  cases List.mem_singleton.mp q
  obtain ⟨c2, _, e1, -, -, e4, -⟩ := E
  cases h5.symm.trans e1
  rw [h6] at e4
  cases e4
def own_X (Z : State) (h : Heap) (a sa ea : Addr) (R : Int64) (H : Int32) (runs : Int32) (sch : Int64) (fs fe : Nat → Value) : Prop := Exa Z h a "com/example/gasholder/gasholder/Execution" ∧ Fld Z h a "com/example/gasholder/gasholder/Execution" "starts" "[J" (.ref sa) ∧ Fld Z h a "com/example/gasholder/gasholder/Execution" "ends" "[J" (.ref ea) ∧ Fld Z h a "com/example/gasholder/gasholder/Execution" "rate" "J" (.long R) ∧ Fld Z h a "com/example/gasholder/gasholder/Execution" "hours" "I" (.int H) ∧ Fld Z h a "com/example/gasholder/gasholder/Execution" "runs" "I" (.int runs) ∧ Fld Z h a "com/example/gasholder/gasholder/Execution" "schedule" "J" (.long sch) ∧ OwnA Z h sa .long 2 fs ∧ OwnA Z h ea .long 2 fe
theorem d12_0 : decode jdk_29_method_66_code 0 = .ok (.lload_n 0, 1) := by decide +kernel
theorem d12_1 : decode jdk_29_method_66_code 1 = .ok (.lload_n 2, 1) := by decide +kernel
theorem d12_2 : decode jdk_29_method_66_code 2 = .ok (.lcmp, 1) := by decide +kernel
theorem d12_3 : decode jdk_29_method_66_code 3 = .ok (.ifCond .lt 7, 3) := by decide +kernel
theorem d12_6 : decode jdk_29_method_66_code 6 = .ok (.lload_n 0, 1) := by decide +kernel
theorem d12_7 : decode jdk_29_method_66_code 7 = .ok (.goto 4, 3) := by decide +kernel
theorem d12_10 : decode jdk_29_method_66_code 10 = .ok (.lload_n 2, 1) := by decide +kernel
theorem d12_11 : decode jdk_29_method_66_code 11 = .ok (.lreturn, 1) := by decide +kernel
theorem ef_12 (m : MethodId) (x0 : Int64) (x1 : Int64) : entryFrame m #[(.long x0), (.long x1)] 4 = mkF m 0 #[.val (.long x0), .second, .val (.long x1), .second] [] := by first | (simp [entryFrame, mkF, argsToLocals, Value.category]; done) | rfl
def Q12 (Z : State) (p1 p2 r : Int64) (h0 : Heap) (n0 : Nat) (v : Option Value) (h : Heap) (L : List Loc) : Prop := v = some (.long r) ∧ Fr n0 L ∧ h = h0
set_option maxRecDepth 65536 in
set_option maxHeartbeats 40000000 in
theorem rm12 (l : Launch) (Z : State) (a0 : Array Value) (hw : ∀ d ∈ tables_1, d.before a0 Z = true) (ws : List Jvm.Cond) (p1 p2 r : Int64) (h0 : Heap) (n0 : Nat) (Z0 : n0 ≤ h0.size) (hr : r = (if p1 < p2 then p2 else p1)) :
    MetFree l (⟨"java/lang/Math", "max", "(JJ)J"⟩ : MethodName) (head1 (Jvm.Cond.code (⟨"java/lang/Math", "max", "(JJ)J"⟩ : MethodName) jdk_29_method_66_code 4 (some .long) :: ws) ({ frames := 0, cells := 0, slots := 0, locals := 0 } : Room)) (fun aa_ U => aa_ = #[(.long p1), (.long p2)] ∧ Z.Warmed39 U.vm ∧ U.heap = h0) (fun _ _ _ _ _ => True) (fun _ U o U' => ∃ v L, o = .returned v ∧ Q12 Z p1 p2 r h0 n0 v U'.heap L ∧ FrameEnd U o U' L ({ frames := 0, cells := 0, slots := 0, locals := 0 } : Room).cells ({ frames := 0, cells := 0, slots := 0, locals := 0 } : Room).slots) := by
  refine own_met (Q := fun v h L => Q12 Z p1 p2 r h0 n0 v h L) (Jvm.Free.JP.mathPlain rfl (by decide +kernel)) ?_
  intro p e s m below meth c s₁ hx hby hml hret hlk hown hnm hZ X0 e0
  have N0 := Fr.nil n0
  rw [ef_12 m p1 p2]
  show OwnG p e below s _ _ _ (s₁.setTop (mkF m 0 #[.val (.long p1), .second, .val (.long p2), .second] []))
  refine own_by (fun t kk_ => XS.lloadN X0.here hx rfl (hb hby d12_0) rfl  kk_) ?_
  show OwnG p e below s _ _ _ (s₁.setTop (mkF m 1 #[.val (.long p1), .second, .val (.long p2), .second] [(.long p1)]))
  refine own_by (fun t kk_ => XS.lloadN X0.here hx rfl (hb hby d12_1) rfl  kk_) ?_
  show OwnG p e below s _ _ _ (s₁.setTop (mkF m 2 #[.val (.long p1), .second, .val (.long p2), .second] [(.long p2), (.long p1)]))
  refine own_by (fun t kk_ => XS.lcmp X0.here hx rfl (hb hby d12_2) rfl kk_) ?_
  show OwnG p e below s _ _ _ (s₁.setTop (mkF m 3 #[.val (.long p1), .second, .val (.long p2), .second] [(.int (lcmpW p1 p2))]))
  by_cases hb3_1 : p1 < p2
  · refine own_by (fun t kk_ => XS.ifYes X0.here hx rfl (pc0 := 3) (pc' := 10) rfl (hb hby d12_3) rfl ((if0 _ _).trans (tlt ((lw_lt _ _).mpr hb3_1)).1) (by decide) (by decide) kk_) ?_
    show OwnG p e below s _ _ _ (s₁.setTop (mkF m 10 #[.val (.long p1), .second, .val (.long p2), .second] []))
    refine own_by (fun t kk_ => XS.lloadN X0.here hx rfl (hb hby d12_10) rfl  kk_) ?_
    show OwnG p e below s _ _ _ (s₁.setTop (mkF m 11 #[.val (.long p1), .second, .val (.long p2), .second] [(.long p2)]))
    exact own_outL X0 hx hret hlk (hb hby d12_11) (⟨by simp [hr, hb3_1], N0, e0⟩) (by decide) (by decide)
  · refine own_by (fun t kk_ => XS.ifNo X0.here hx rfl (hb hby d12_3) rfl ((if0 _ _).trans (flt (fun q => hb3_1 ((lw_lt _ _).mp q))).1) kk_) ?_
    show OwnG p e below s _ _ _ (s₁.setTop (mkF m 6 #[.val (.long p1), .second, .val (.long p2), .second] []))
    refine own_by (fun t kk_ => XS.lloadN X0.here hx rfl (hb hby d12_6) rfl  kk_) ?_
    show OwnG p e below s _ _ _ (s₁.setTop (mkF m 7 #[.val (.long p1), .second, .val (.long p2), .second] [(.long p1)]))
    refine own_by (fun t kk_ => XS.goto X0.here hx rfl (pc0 := 7) (pc' := 11) rfl (hb hby d12_7) (by decide) (by decide) kk_) ?_
    show OwnG p e below s _ _ _ (s₁.setTop (mkF m 11 #[.val (.long p1), .second, .val (.long p2), .second] [(.long p1)]))
    exact own_outL X0 hx hret hlk (hb hby d12_11) (⟨by simp [hr, hb3_1], N0, e0⟩) (by decide) (by decide)
theorem d11_0 : decode jdk_29_method_70_code 0 = .ok (.lload_n 0, 1) := by decide +kernel
theorem d11_1 : decode jdk_29_method_70_code 1 = .ok (.lload_n 2, 1) := by decide +kernel
theorem d11_2 : decode jdk_29_method_70_code 2 = .ok (.lcmp, 1) := by decide +kernel
theorem d11_3 : decode jdk_29_method_70_code 3 = .ok (.ifCond .gt 7, 3) := by decide +kernel
theorem d11_6 : decode jdk_29_method_70_code 6 = .ok (.lload_n 0, 1) := by decide +kernel
theorem d11_7 : decode jdk_29_method_70_code 7 = .ok (.goto 4, 3) := by decide +kernel
theorem d11_10 : decode jdk_29_method_70_code 10 = .ok (.lload_n 2, 1) := by decide +kernel
theorem d11_11 : decode jdk_29_method_70_code 11 = .ok (.lreturn, 1) := by decide +kernel
theorem ef_11 (m : MethodId) (x0 : Int64) (x1 : Int64) : entryFrame m #[(.long x0), (.long x1)] 4 = mkF m 0 #[.val (.long x0), .second, .val (.long x1), .second] [] := by first | (simp [entryFrame, mkF, argsToLocals, Value.category]; done) | rfl
def Q11 (Z : State) (p1 p2 r : Int64) (h0 : Heap) (n0 : Nat) (v : Option Value) (h : Heap) (L : List Loc) : Prop := v = some (.long r) ∧ Fr n0 L ∧ h = h0
set_option maxRecDepth 65536 in
set_option maxHeartbeats 40000000 in
theorem rm11 (l : Launch) (Z : State) (a0 : Array Value) (hw : ∀ d ∈ tables_1, d.before a0 Z = true) (ws : List Jvm.Cond) (p1 p2 r : Int64) (h0 : Heap) (n0 : Nat) (Z0 : n0 ≤ h0.size) (hr : r = (if p2 < p1 then p2 else p1)) :
    MetFree l (⟨"java/lang/Math", "min", "(JJ)J"⟩ : MethodName) (head1 (Jvm.Cond.code (⟨"java/lang/Math", "min", "(JJ)J"⟩ : MethodName) jdk_29_method_70_code 4 (some .long) :: ws) ({ frames := 0, cells := 0, slots := 0, locals := 0 } : Room)) (fun aa_ U => aa_ = #[(.long p1), (.long p2)] ∧ Z.Warmed39 U.vm ∧ U.heap = h0) (fun _ _ _ _ _ => True) (fun _ U o U' => ∃ v L, o = .returned v ∧ Q11 Z p1 p2 r h0 n0 v U'.heap L ∧ FrameEnd U o U' L ({ frames := 0, cells := 0, slots := 0, locals := 0 } : Room).cells ({ frames := 0, cells := 0, slots := 0, locals := 0 } : Room).slots) := by
  refine own_met (Q := fun v h L => Q11 Z p1 p2 r h0 n0 v h L) (Jvm.Free.JP.mathPlain rfl (by decide +kernel)) ?_
  intro p e s m below meth c s₁ hx hby hml hret hlk hown hnm hZ X0 e0
  have N0 := Fr.nil n0
  rw [ef_11 m p1 p2]
  show OwnG p e below s _ _ _ (s₁.setTop (mkF m 0 #[.val (.long p1), .second, .val (.long p2), .second] []))
  refine own_by (fun t kk_ => XS.lloadN X0.here hx rfl (hb hby d11_0) rfl  kk_) ?_
  show OwnG p e below s _ _ _ (s₁.setTop (mkF m 1 #[.val (.long p1), .second, .val (.long p2), .second] [(.long p1)]))
  refine own_by (fun t kk_ => XS.lloadN X0.here hx rfl (hb hby d11_1) rfl  kk_) ?_
  show OwnG p e below s _ _ _ (s₁.setTop (mkF m 2 #[.val (.long p1), .second, .val (.long p2), .second] [(.long p2), (.long p1)]))
  refine own_by (fun t kk_ => XS.lcmp X0.here hx rfl (hb hby d11_2) rfl kk_) ?_
  show OwnG p e below s _ _ _ (s₁.setTop (mkF m 3 #[.val (.long p1), .second, .val (.long p2), .second] [(.int (lcmpW p1 p2))]))
  by_cases hb3_1 : p2 < p1
  · refine own_by (fun t kk_ => XS.ifYes X0.here hx rfl (pc0 := 3) (pc' := 10) rfl (hb hby d11_3) rfl ((if0 _ _).trans (tlt ((lw_gt _ _).mpr hb3_1)).2.2.1) (by decide) (by decide) kk_) ?_
    show OwnG p e below s _ _ _ (s₁.setTop (mkF m 10 #[.val (.long p1), .second, .val (.long p2), .second] []))
    refine own_by (fun t kk_ => XS.lloadN X0.here hx rfl (hb hby d11_10) rfl  kk_) ?_
    show OwnG p e below s _ _ _ (s₁.setTop (mkF m 11 #[.val (.long p1), .second, .val (.long p2), .second] [(.long p2)]))
    exact own_outL X0 hx hret hlk (hb hby d11_11) (⟨by simp [hr, hb3_1], N0, e0⟩) (by decide) (by decide)
  · refine own_by (fun t kk_ => XS.ifNo X0.here hx rfl (hb hby d11_3) rfl ((if0 _ _).trans (flt (fun q => hb3_1 ((lw_gt _ _).mp q))).2.2.1) kk_) ?_
    show OwnG p e below s _ _ _ (s₁.setTop (mkF m 6 #[.val (.long p1), .second, .val (.long p2), .second] []))
    refine own_by (fun t kk_ => XS.lloadN X0.here hx rfl (hb hby d11_6) rfl  kk_) ?_
    show OwnG p e below s _ _ _ (s₁.setTop (mkF m 7 #[.val (.long p1), .second, .val (.long p2), .second] [(.long p1)]))
    refine own_by (fun t kk_ => XS.goto X0.here hx rfl (pc0 := 7) (pc' := 11) rfl (hb hby d11_7) (by decide) (by decide) kk_) ?_
    show OwnG p e below s _ _ _ (s₁.setTop (mkF m 11 #[.val (.long p1), .second, .val (.long p2), .second] [(.long p1)]))
    exact own_outL X0 hx hret hlk (hb hby d11_11) (⟨by simp [hr, hb3_1], N0, e0⟩) (by decide) (by decide)
theorem d6_0 : decode prog_11_method_14_code 0 = .ok (.lload_n 0, 1) := by decide +kernel
theorem d6_1 : decode prog_11_method_14_code 1 = .ok (.lload_n 2, 1) := by decide +kernel
theorem d6_2 : decode prog_11_method_14_code 2 = .ok (.ldiv, 1) := by decide +kernel
theorem d6_3 : decode prog_11_method_14_code 3 = .ok (.lstore 4, 2) := by decide +kernel
theorem d6_5 : decode prog_11_method_14_code 5 = .ok (.lload_n 0, 1) := by decide +kernel
theorem d6_6 : decode prog_11_method_14_code 6 = .ok (.lload_n 2, 1) := by decide +kernel
theorem d6_7 : decode prog_11_method_14_code 7 = .ok (.lrem, 1) := by decide +kernel
theorem d6_8 : decode prog_11_method_14_code 8 = .ok (.lstore 6, 2) := by decide +kernel
theorem d6_10 : decode prog_11_method_14_code 10 = .ok (.lload 6, 2) := by decide +kernel
theorem d6_12 : decode prog_11_method_14_code 12 = .ok (.lload_n 2, 1) := by decide +kernel
theorem d6_13 : decode prog_11_method_14_code 13 = .ok (.lload 6, 2) := by decide +kernel
theorem d6_15 : decode prog_11_method_14_code 15 = .ok (.lsub, 1) := by decide +kernel
theorem d6_16 : decode prog_11_method_14_code 16 = .ok (.lcmp, 1) := by decide +kernel
theorem d6_17 : decode prog_11_method_14_code 17 = .ok (.ifCond .lt 9, 3) := by decide +kernel
theorem d6_20 : decode prog_11_method_14_code 20 = .ok (.lload 4, 2) := by decide +kernel
theorem d6_22 : decode prog_11_method_14_code 22 = .ok (.lconst 1, 1) := by decide +kernel
theorem d6_23 : decode prog_11_method_14_code 23 = .ok (.ladd, 1) := by decide +kernel
theorem d6_24 : decode prog_11_method_14_code 24 = .ok (.lstore 4, 2) := by decide +kernel
theorem d6_26 : decode prog_11_method_14_code 26 = .ok (.lload 4, 2) := by decide +kernel
theorem d6_28 : decode prog_11_method_14_code 28 = .ok (.lreturn, 1) := by decide +kernel
theorem pn_0 : plainName "com/example/gasholder/gasholder/Fraction" = true := by first | (simp [plainName, overriddenIn]; done) | decide +kernel
theorem ef_6 (m : MethodId) (x0 : Int64) (x1 : Int64) : entryFrame m #[(.long x0), (.long x1)] 8 = mkF m 0 #[.val (.long x0), .second, .val (.long x1), .second, .unset, .unset, .unset, .unset] [] := by first | (simp [entryFrame, mkF, argsToLocals, Value.category]; done) | rfl
def Q6 (Z : State) (R : Int64) (h0 : Heap) (n0 : Nat) (v : Option Value) (h : Heap) (L : List Loc) : Prop := v = some (.long (0 : Int64)) ∧ Fr n0 L ∧ h = h0
set_option maxRecDepth 65536 in
set_option maxHeartbeats 40000000 in
theorem rm6 (l : Launch) (Z : State) (a0 : Array Value) (hw : ∀ d ∈ tables_1, d.before a0 Z = true) (ws : List Jvm.Cond) (R : Int64) (h0 : Heap) (n0 : Nat) (Z0 : n0 ≤ h0.size) (hR : (0 : Int64) < R) (hnz : R ≠ 0) :
    MetFree l (⟨"com/example/gasholder/gasholder/Fraction", "nearest", "(JJ)J"⟩ : MethodName) (head1 (Jvm.Cond.code (⟨"com/example/gasholder/gasholder/Fraction", "nearest", "(JJ)J"⟩ : MethodName) prog_11_method_14_code 8 (some .long) :: ws) ({ frames := 0, cells := 0, slots := 0, locals := 0 } : Room)) (fun aa_ U => aa_ = #[(.long (0 : Int64)), (.long R)] ∧ Z.Warmed39 U.vm ∧ U.heap = h0) (fun _ _ _ _ _ => True) (fun _ U o U' => ∃ v L, o = .returned v ∧ Q6 Z R h0 n0 v U'.heap L ∧ FrameEnd U o U' L ({ frames := 0, cells := 0, slots := 0, locals := 0 } : Room).cells ({ frames := 0, cells := 0, slots := 0, locals := 0 } : Room).slots) := by
  refine own_met (Q := fun v h L => Q6 Z R h0 n0 v h L) (plainFor_of_name pn_0) ?_
  intro p e s m below meth c s₁ hx hby hml hret hlk hown hnm hZ X0 e0
  have N0 := Fr.nil n0
  rw [ef_6 m (0 : Int64) R]
  show OwnG p e below s _ _ _ (s₁.setTop (mkF m 0 #[.val (.long (0 : Int64)), .second, .val (.long R), .second, .unset, .unset, .unset, .unset] []))
  refine own_by (fun t kk_ => XS.lloadN X0.here hx rfl (hb hby d6_0) rfl  kk_) ?_
  show OwnG p e below s _ _ _ (s₁.setTop (mkF m 1 #[.val (.long (0 : Int64)), .second, .val (.long R), .second, .unset, .unset, .unset, .unset] [(.long (0 : Int64))]))
  refine own_by (fun t kk_ => XS.lloadN X0.here hx rfl (hb hby d6_1) rfl  kk_) ?_
  show OwnG p e below s _ _ _ (s₁.setTop (mkF m 2 #[.val (.long (0 : Int64)), .second, .val (.long R), .second, .unset, .unset, .unset, .unset] [(.long R), (.long (0 : Int64))]))
  refine own_by (fun t kk_ => XS.ldiv X0.here hx rfl (hb hby d6_2) rfl hnz kk_) ?_
  show OwnG p e below s _ _ _ (s₁.setTop (mkF m 3 #[.val (.long (0 : Int64)), .second, .val (.long R), .second, .unset, .unset, .unset, .unset] [(.long ((0 : Int64) / R))]))
  rw [own_zdiv R]
  show OwnG p e below s _ _ _ (s₁.setTop (mkF m 3 #[.val (.long (0 : Int64)), .second, .val (.long R), .second, .unset, .unset, .unset, .unset] [(.long (0 : Int64))]))
  refine own_by (fun t kk_ => XS.lstore X0.here hx rfl (hb hby d6_3) rfl (l' := #[.val (.long (0 : Int64)), .second, .val (.long R), .second, .val (.long (0 : Int64)), .second, .unset, .unset]) rfl kk_) ?_
  show OwnG p e below s _ _ _ (s₁.setTop (mkF m 5 #[.val (.long (0 : Int64)), .second, .val (.long R), .second, .val (.long (0 : Int64)), .second, .unset, .unset] []))
  refine own_by (fun t kk_ => XS.lloadN X0.here hx rfl (hb hby d6_5) rfl  kk_) ?_
  show OwnG p e below s _ _ _ (s₁.setTop (mkF m 6 #[.val (.long (0 : Int64)), .second, .val (.long R), .second, .val (.long (0 : Int64)), .second, .unset, .unset] [(.long (0 : Int64))]))
  refine own_by (fun t kk_ => XS.lloadN X0.here hx rfl (hb hby d6_6) rfl  kk_) ?_
  show OwnG p e below s _ _ _ (s₁.setTop (mkF m 7 #[.val (.long (0 : Int64)), .second, .val (.long R), .second, .val (.long (0 : Int64)), .second, .unset, .unset] [(.long R), (.long (0 : Int64))]))
  refine own_by (fun t kk_ => XS.lrem X0.here hx rfl (hb hby d6_7) rfl hnz kk_) ?_
  show OwnG p e below s _ _ _ (s₁.setTop (mkF m 8 #[.val (.long (0 : Int64)), .second, .val (.long R), .second, .val (.long (0 : Int64)), .second, .unset, .unset] [(.long ((0 : Int64) - ((0 : Int64) / R) * R))]))
  rw [own_zrem R]
  show OwnG p e below s _ _ _ (s₁.setTop (mkF m 8 #[.val (.long (0 : Int64)), .second, .val (.long R), .second, .val (.long (0 : Int64)), .second, .unset, .unset] [(.long (0 : Int64))]))
  refine own_by (fun t kk_ => XS.lstore X0.here hx rfl (hb hby d6_8) rfl (l' := #[.val (.long (0 : Int64)), .second, .val (.long R), .second, .val (.long (0 : Int64)), .second, .val (.long (0 : Int64)), .second]) rfl kk_) ?_
  show OwnG p e below s _ _ _ (s₁.setTop (mkF m 10 #[.val (.long (0 : Int64)), .second, .val (.long R), .second, .val (.long (0 : Int64)), .second, .val (.long (0 : Int64)), .second] []))
  refine own_by (fun t kk_ => XS.lload X0.here hx rfl (hb hby d6_10) rfl  kk_) ?_
  show OwnG p e below s _ _ _ (s₁.setTop (mkF m 12 #[.val (.long (0 : Int64)), .second, .val (.long R), .second, .val (.long (0 : Int64)), .second, .val (.long (0 : Int64)), .second] [(.long (0 : Int64))]))
  refine own_by (fun t kk_ => XS.lloadN X0.here hx rfl (hb hby d6_12) rfl  kk_) ?_
  show OwnG p e below s _ _ _ (s₁.setTop (mkF m 13 #[.val (.long (0 : Int64)), .second, .val (.long R), .second, .val (.long (0 : Int64)), .second, .val (.long (0 : Int64)), .second] [(.long R), (.long (0 : Int64))]))
  refine own_by (fun t kk_ => XS.lload X0.here hx rfl (hb hby d6_13) rfl  kk_) ?_
  show OwnG p e below s _ _ _ (s₁.setTop (mkF m 15 #[.val (.long (0 : Int64)), .second, .val (.long R), .second, .val (.long (0 : Int64)), .second, .val (.long (0 : Int64)), .second] [(.long (0 : Int64)), (.long R), (.long (0 : Int64))]))
  refine own_by (fun t kk_ => XS.lsub X0.here hx rfl (hb hby d6_15) rfl kk_) ?_
  show OwnG p e below s _ _ _ (s₁.setTop (mkF m 16 #[.val (.long (0 : Int64)), .second, .val (.long R), .second, .val (.long (0 : Int64)), .second, .val (.long (0 : Int64)), .second] [(.long (R - (0 : Int64))), (.long (0 : Int64))]))
  refine own_by (fun t kk_ => XS.lcmp X0.here hx rfl (hb hby d6_16) rfl kk_) ?_
  show OwnG p e below s _ _ _ (s₁.setTop (mkF m 17 #[.val (.long (0 : Int64)), .second, .val (.long R), .second, .val (.long (0 : Int64)), .second, .val (.long (0 : Int64)), .second] [(.int (lcmpW (0 : Int64) (R - (0 : Int64))))]))
  refine own_by (fun t kk_ => XS.ifYes X0.here hx rfl (pc0 := 17) (pc' := 26) rfl (hb hby d6_17) rfl ((if0 _ _).trans (tlt ((lw_lt _ _).mpr (own_posS hR))).1) (by decide) (by decide) kk_) ?_
  show OwnG p e below s _ _ _ (s₁.setTop (mkF m 26 #[.val (.long (0 : Int64)), .second, .val (.long R), .second, .val (.long (0 : Int64)), .second, .val (.long (0 : Int64)), .second] []))
  refine own_by (fun t kk_ => XS.lload X0.here hx rfl (hb hby d6_26) rfl  kk_) ?_
  show OwnG p e below s _ _ _ (s₁.setTop (mkF m 28 #[.val (.long (0 : Int64)), .second, .val (.long R), .second, .val (.long (0 : Int64)), .second, .val (.long (0 : Int64)), .second] [(.long (0 : Int64))]))
  exact own_outL X0 hx hret hlk (hb hby d6_28) (⟨rfl, N0, e0⟩) (by decide) (by decide)
theorem d8_0 : decode jdk_2316_method_16_code 0 = .ok (.lload_n 0, 1) := by decide +kernel
theorem d8_1 : decode jdk_2316_method_16_code 1 = .ok (.iload_n 2, 1) := by decide +kernel
theorem d8_2 : decode jdk_2316_method_16_code 2 = .ok (.i2l, 1) := by decide +kernel
theorem d8_3 : decode jdk_2316_method_16_code 3 = .ok (.lor, 1) := by decide +kernel
theorem d8_4 : decode jdk_2316_method_16_code 4 = .ok (.lconst 0, 1) := by decide +kernel
theorem d8_5 : decode jdk_2316_method_16_code 5 = .ok (.lcmp, 1) := by decide +kernel
theorem d8_6 : decode jdk_2316_method_16_code 6 = .ok (.ifCond .ne 7, 3) := by decide +kernel
theorem d8_9 : decode jdk_2316_method_16_code 9 = .ok (.getstatic 32, 3) := by decide +kernel
theorem d8_12 : decode jdk_2316_method_16_code 12 = .ok (.areturn, 1) := by decide +kernel
theorem d8_13 : decode jdk_2316_method_16_code 13 = .ok (.new 11, 3) := by decide +kernel
theorem d8_16 : decode jdk_2316_method_16_code 16 = .ok (.dup, 1) := by decide +kernel
theorem d8_17 : decode jdk_2316_method_16_code 17 = .ok (.lload_n 0, 1) := by decide +kernel
theorem d8_18 : decode jdk_2316_method_16_code 18 = .ok (.iload_n 2, 1) := by decide +kernel
theorem d8_19 : decode jdk_2316_method_16_code 19 = .ok (.invokespecial 215, 3) := by decide +kernel
theorem d8_22 : decode jdk_2316_method_16_code 22 = .ok (.areturn, 1) := by decide +kernel
theorem pn_1 : plainName "java/time/Duration" = true := by first | (simp [plainName, overriddenIn]; done) | decide +kernel
theorem ef_8 (m : MethodId) (x0 : Int64) (x1 : Int32) : entryFrame m #[(.long x0), (.int x1)] 3 = mkF m 0 #[.val (.long x0), .second, .val (.int x1)] [] := by first | (simp [entryFrame, mkF, argsToLocals, Value.category]; done) | rfl
def Q8 (Z : State) (zd : Addr) (h0 : Heap) (n0 : Nat) (v : Option Value) (h : Heap) (L : List Loc) : Prop := v = some (.ref zd) ∧ Fr n0 L ∧ h = h0
set_option maxRecDepth 65536 in
set_option maxHeartbeats 40000000 in
theorem rm8 (l : Launch) (Z : State) (a0 : Array Value) (hw : ∀ d ∈ tables_1, d.before a0 Z = true) (ws : List Jvm.Cond) (zd : Addr) (h0 : Heap) (n0 : Nat) (Z0 : n0 ≤ h0.size) (SZ : Sta Z h0 "java/time/Duration" "ZERO" "Ljava/time/Duration;" (.ref zd)) :
    MetFree l (⟨"java/time/Duration", "create", "(JI)Ljava/time/Duration;"⟩ : MethodName) (head1 (Jvm.Cond.code (⟨"java/time/Duration", "create", "(JI)Ljava/time/Duration;"⟩ : MethodName) jdk_2316_method_16_code 3 (some (.object "java/time/Duration")) :: ws) ({ frames := 0, cells := 0, slots := 0, locals := 0 } : Room)) (fun aa_ U => aa_ = #[(.long (0 : Int64)), (.int (0 : Int32))] ∧ Z.Warmed39 U.vm ∧ U.heap = h0) (fun _ _ _ _ _ => True) (fun _ U o U' => ∃ v L, o = .returned v ∧ Q8 Z zd h0 n0 v U'.heap L ∧ FrameEnd U o U' L ({ frames := 0, cells := 0, slots := 0, locals := 0 } : Room).cells ({ frames := 0, cells := 0, slots := 0, locals := 0 } : Room).slots) := by
  refine own_met (Q := fun v h L => Q8 Z zd h0 n0 v h L) (plainFor_of_name pn_1) ?_
  intro p e s m below meth c s₁ hx hby hml hret hlk hown hnm hZ X0 e0
  have N0 := Fr.nil n0
  rw [ef_8 m (0 : Int64) (0 : Int32)]
  show OwnG p e below s _ _ _ (s₁.setTop (mkF m 0 #[.val (.long (0 : Int64)), .second, .val (.int (0 : Int32))] []))
  refine own_by (fun t kk_ => XS.lloadN X0.here hx rfl (hb hby d8_0) rfl  kk_) ?_
  show OwnG p e below s _ _ _ (s₁.setTop (mkF m 1 #[.val (.long (0 : Int64)), .second, .val (.int (0 : Int32))] [(.long (0 : Int64))]))
  refine own_by (fun t kk_ => XS.iloadN X0.here hx rfl (hb hby d8_1) rfl  kk_) ?_
  show OwnG p e below s _ _ _ (s₁.setTop (mkF m 2 #[.val (.long (0 : Int64)), .second, .val (.int (0 : Int32))] [(.int (0 : Int32)), (.long (0 : Int64))]))
  refine own_by (fun t kk_ => XS.i2l X0.here hx rfl (hb hby d8_2) rfl kk_) ?_
  show OwnG p e below s _ _ _ (s₁.setTop (mkF m 3 #[.val (.long (0 : Int64)), .second, .val (.int (0 : Int32))] [(.long ((0 : Int32).toInt64)), (.long (0 : Int64))]))
  refine own_by (fun t kk_ => XS.lor X0.here hx rfl (hb hby d8_3) rfl kk_) ?_
  show OwnG p e below s _ _ _ (s₁.setTop (mkF m 4 #[.val (.long (0 : Int64)), .second, .val (.int (0 : Int32))] [(.long ((0 : Int64) ||| ((0 : Int32).toInt64)))]))
  refine own_by (fun t kk_ => XS.lconst X0.here hx rfl (hb hby d8_4) kk_) ?_
  show OwnG p e below s _ _ _ (s₁.setTop (mkF m 5 #[.val (.long (0 : Int64)), .second, .val (.int (0 : Int32))] [(.long (0 : Int64)), (.long ((0 : Int64) ||| ((0 : Int32).toInt64)))]))
  refine own_by (fun t kk_ => XS.lcmp X0.here hx rfl (hb hby d8_5) rfl kk_) ?_
  show OwnG p e below s _ _ _ (s₁.setTop (mkF m 6 #[.val (.long (0 : Int64)), .second, .val (.int (0 : Int32))] [(.int (lcmpW ((0 : Int64) ||| ((0 : Int32).toInt64)) (0 : Int64)))]))
  refine own_by (fun t kk_ => XS.ifNo X0.here hx rfl (hb hby d8_6) rfl ((if0 _ _).trans (teq ((lw_eq _ _).mpr (by decide))).2) kk_) ?_
  show OwnG p e below s _ _ _ (s₁.setTop (mkF m 9 #[.val (.long (0 : Int64)), .second, .val (.int (0 : Int32))] []))
  obtain ⟨T1, X1, e1, st1⟩ := getS2 X0 hx hZ hown (host := "") (Or.inl (hw _ (List.mem_of_getElem? (i := 52) rfl))) Via.refl e0 SZ (g := (mkF m 9 #[.val (.long (0 : Int64)), .second, .val (.int (0 : Int32))] [])) rfl (hb hby d8_9)
  refine own_by (fun t kk_ => st1 _ kk_) ?_
  show OwnG p e below s _ _ _ (T1.setTop (mkF m 12 #[.val (.long (0 : Int64)), .second, .val (.int (0 : Int32))] [(.ref zd)]))
  exact own_outA X1 hx rfl rfl hret hlk (hb hby d8_12) (⟨rfl, N0, e1⟩) (by decide) (by decide)
theorem d7_0 : decode jdk_2316_method_4_code 0 = .ok (.lload_n 0, 1) := by decide +kernel
theorem d7_1 : decode jdk_2316_method_4_code 1 = .ok (.iconst 0, 1) := by decide +kernel
theorem d7_2 : decode jdk_2316_method_4_code 2 = .ok (.invokestatic 10, 3) := by decide +kernel
theorem d7_5 : decode jdk_2316_method_4_code 5 = .ok (.areturn, 1) := by decide +kernel
theorem pd_0 : parseMethodDescriptor "(JI)Ljava/time/Duration;" = some ⟨[.long, .int], some (.object "java/time/Duration")⟩ := by decide +kernel
theorem ef_7 (m : MethodId) (x0 : Int64) : entryFrame m #[(.long x0)] 2 = mkF m 0 #[.val (.long x0), .second] [] := by first | (simp [entryFrame, mkF, argsToLocals, Value.category]; done) | rfl
def Q7 (Z : State) (zd : Addr) (h0 : Heap) (n0 : Nat) (v : Option Value) (h : Heap) (L : List Loc) : Prop := v = some (.ref zd) ∧ Fr n0 L ∧ h = h0
set_option maxRecDepth 65536 in
set_option maxHeartbeats 40000000 in
theorem rm7 (l : Launch) (Z : State) (a0 : Array Value) (hw : ∀ d ∈ tables_1, d.before a0 Z = true) (ws : List Jvm.Cond) (zd : Addr) (h0 : Heap) (n0 : Nat) (Z0 : n0 ≤ h0.size) (SZ : Sta Z h0 "java/time/Duration" "ZERO" "Ljava/time/Duration;" (.ref zd)) :
    MetFree l (⟨"java/time/Duration", "ofSeconds", "(J)Ljava/time/Duration;"⟩ : MethodName) (head1 (Jvm.Cond.code (⟨"java/time/Duration", "ofSeconds", "(J)Ljava/time/Duration;"⟩ : MethodName) jdk_2316_method_4_code 2 (some (.object "java/time/Duration")) :: ws) ({ frames := 1, cells := 0, slots := 0, locals := 14 } : Room)) (fun aa_ U => aa_ = #[(.long (0 : Int64))] ∧ Z.Warmed39 U.vm ∧ U.heap = h0) (fun _ _ _ _ _ => True) (fun _ U o U' => ∃ v L, o = .returned v ∧ Q7 Z zd h0 n0 v U'.heap L ∧ FrameEnd U o U' L ({ frames := 1, cells := 0, slots := 0, locals := 14 } : Room).cells ({ frames := 1, cells := 0, slots := 0, locals := 14 } : Room).slots) := by
  refine own_met (Q := fun v h L => Q7 Z zd h0 n0 v h L) (plainFor_of_name pn_1) ?_
  intro p e s m below meth c s₁ hx hby hml hret hlk hown hnm hZ X0 e0
  have N0 := Fr.nil n0
  rw [ef_7 m (0 : Int64)]
  show OwnG p e below s _ _ _ (s₁.setTop (mkF m 0 #[.val (.long (0 : Int64)), .second] []))
  refine own_by (fun t kk_ => XS.lloadN X0.here hx rfl (hb hby d7_0) rfl  kk_) ?_
  show OwnG p e below s _ _ _ (s₁.setTop (mkF m 1 #[.val (.long (0 : Int64)), .second] [(.long (0 : Int64))]))
  refine own_by (fun t kk_ => XS.iconst X0.here hx rfl (hb hby d7_1) kk_) ?_
  show OwnG p e below s _ _ _ (s₁.setTop (mkF m 2 #[.val (.long (0 : Int64)), .second] [(.int (0 : Int32)), (.long (0 : Int64))]))
  obtain ⟨_, _, ⟨T1, L1, k1, n1⟩, -, X1, ⟨Lc1, hQ1, l1, y1, z1⟩, st1⟩ := Jvm.LawKit.callS X0 hx (y := (⟨"java/time/Duration", "create", "(JI)Ljava/time/Duration;"⟩ : MethodName)) hown (mvT hZ (hw _ (List.mem_of_getElem? (i := 49) rfl))) (mvT hZ (hw _ (List.mem_of_getElem? (i := 50) rfl))) (mvT hZ (hw _ (List.mem_of_getElem? (i := 47) rfl))) (mvT hZ (hw _ (List.mem_of_getElem? (i := 51) rfl))) (by decide) (backOf (W := 0) (rm8 l Z a0 hw [] zd h0 n0 Z0 SZ) hZ (hw _ (List.mem_of_getElem? (i := 51) rfl)) (hw _ (List.mem_of_getElem? (i := 47) rfl)) (by decide) (by decide)) (g := (mkF m 2 #[.val (.long (0 : Int64)), .second] [(.int (0 : Int32)), (.long (0 : Int64))])) rfl (by rw [hml]; rfl) (argsL := [(.long (0 : Int64)), (.int (0 : Int32))]) (rest := []) (lenOf pd_0 rfl) rfl (by show 2 * 0 + _ ≤ _; exact Nat.le_of_eq rfl) (hb hby d7_2) (fun _ _ => ⟨rfl, e0, (by decide : 0 + 0 ≤ _), (by decide : 0 + 0 ≤ _)⟩)
  dsimp only [Pt.U, Pt.locs, Pt.cells, Pt.slots] at X1 l1 y1 z1 st1 hQ1
  subst l1 y1 z1
  refine own_by (fun t kk_ => st1 _ kk_) ?_
  obtain ⟨rfl, N1q, hh1⟩ := hQ1
  have N1 := Fr.app N0 N1q
  have eh1 : T1.heap = h0 := hh1.trans rfl
  have f2 := SZ
  rw [← hh1] at f2
  have sz1 : n0 ≤ T1.heap.size := by rw [hh1]; exact Z0
  show OwnG p e below s _ _ _ (T1.setTop (mkF m 5 #[.val (.long (0 : Int64)), .second] [(.ref zd)]))
  exact own_outA X1 hx rfl rfl hret hlk (hb hby d7_5) (⟨rfl, N1, eh1⟩) (by decide) (by decide)
theorem d5_0 : decode prog_8_method_8_code 0 = .ok (.lload_n 1, 1) := by decide +kernel
theorem d5_1 : decode prog_8_method_8_code 1 = .ok (.aload_n 0, 1) := by decide +kernel
theorem d5_2 : decode prog_8_method_8_code 2 = .ok (.getfield 16, 3) := by decide +kernel
theorem d5_5 : decode prog_8_method_8_code 5 = .ok (.ldiv, 1) := by decide +kernel
theorem d5_6 : decode prog_8_method_8_code 6 = .ok (.lstore_n 3, 1) := by decide +kernel
theorem d5_7 : decode prog_8_method_8_code 7 = .ok (.lload_n 1, 1) := by decide +kernel
theorem d5_8 : decode prog_8_method_8_code 8 = .ok (.aload_n 0, 1) := by decide +kernel
theorem d5_9 : decode prog_8_method_8_code 9 = .ok (.getfield 16, 3) := by decide +kernel
theorem d5_12 : decode prog_8_method_8_code 12 = .ok (.lrem, 1) := by decide +kernel
theorem d5_13 : decode prog_8_method_8_code 13 = .ok (.getstatic 75, 3) := by decide +kernel
theorem d5_16 : decode prog_8_method_8_code 16 = .ok (.lmul, 1) := by decide +kernel
theorem d5_17 : decode prog_8_method_8_code 17 = .ok (.lstore 5, 2) := by decide +kernel
theorem d5_19 : decode prog_8_method_8_code 19 = .ok (.lload_n 3, 1) := by decide +kernel
theorem d5_20 : decode prog_8_method_8_code 20 = .ok (.getstatic 75, 3) := by decide +kernel
theorem d5_23 : decode prog_8_method_8_code 23 = .ok (.lmul, 1) := by decide +kernel
theorem d5_24 : decode prog_8_method_8_code 24 = .ok (.lload 5, 2) := by decide +kernel
theorem d5_26 : decode prog_8_method_8_code 26 = .ok (.aload_n 0, 1) := by decide +kernel
theorem d5_27 : decode prog_8_method_8_code 27 = .ok (.getfield 16, 3) := by decide +kernel
theorem d5_30 : decode prog_8_method_8_code 30 = .ok (.invokestatic 78, 3) := by decide +kernel
theorem d5_33 : decode prog_8_method_8_code 33 = .ok (.ladd, 1) := by decide +kernel
theorem d5_34 : decode prog_8_method_8_code 34 = .ok (.invokestatic 83, 3) := by decide +kernel
theorem d5_37 : decode prog_8_method_8_code 37 = .ok (.areturn, 1) := by decide +kernel
theorem pn_2 : plainName "com/example/gasholder/gasholder/Execution" = true := by first | (simp [plainName, overriddenIn]; done) | decide +kernel
theorem pd_1 : parseMethodDescriptor "(JJ)J" = some ⟨[.long, .long], some .long⟩ := by decide +kernel
theorem pd_2 : parseMethodDescriptor "(J)Ljava/time/Duration;" = some ⟨[.long], some (.object "java/time/Duration")⟩ := by decide +kernel
theorem ef_5 (m : MethodId) (x0 : Addr) (x1 : Int64) : entryFrame m #[(.ref x0), (.long x1)] 7 = mkF m 0 #[.val (.ref x0), .val (.long x1), .second, .unset, .unset, .unset, .unset] [] := by first | (simp [entryFrame, mkF, argsToLocals, Value.category]; done) | rfl
def Q5 (Z : State) (a1 zd : Addr) (R sp : Int64) (h0 : Heap) (n0 : Nat) (v : Option Value) (h : Heap) (L : List Loc) : Prop := v = some (.ref zd) ∧ Fr n0 L ∧ h = h0
set_option maxRecDepth 65536 in
set_option maxHeartbeats 40000000 in
theorem rm5 (l : Launch) (Z : State) (a0 : Array Value) (hw : ∀ d ∈ tables_1, d.before a0 Z = true) (ws : List Jvm.Cond) (a1 zd : Addr) (R sp : Int64) (h0 : Heap) (n0 : Nat) (Z0 : n0 ≤ h0.size) (FR : Fld Z h0 a1 "com/example/gasholder/gasholder/Execution" "rate" "J" (.long R)) (SZ : Sta Z h0 "java/time/Duration" "ZERO" "Ljava/time/Duration;" (.ref zd)) (SP : Sta Z h0 "com/example/gasholder/gasholder/Execution" "SECONDS_PER_HOUR" "J" (.long sp)) (hR : (0 : Int64) < R) (hnz : R ≠ 0) :
    MetFree l (⟨"com/example/gasholder/gasholder/Execution", "nearestSecond", "(J)Ljava/time/Duration;"⟩ : MethodName) (head1 (Jvm.Cond.code (⟨"com/example/gasholder/gasholder/Execution", "nearestSecond", "(J)Ljava/time/Duration;"⟩ : MethodName) prog_8_method_8_code 7 (some (.object "java/time/Duration")) :: ws) ({ frames := 2, cells := 0, slots := 0, locals := 27 } : Room)) (fun aa_ U => aa_ = #[(.ref a1), (.long (0 : Int64))] ∧ Z.Warmed39 U.vm ∧ U.heap = h0) (fun _ _ _ _ _ => True) (fun _ U o U' => ∃ v L, o = .returned v ∧ Q5 Z a1 zd R sp h0 n0 v U'.heap L ∧ FrameEnd U o U' L ({ frames := 2, cells := 0, slots := 0, locals := 27 } : Room).cells ({ frames := 2, cells := 0, slots := 0, locals := 27 } : Room).slots) := by
  refine own_met (Q := fun v h L => Q5 Z a1 zd R sp h0 n0 v h L) (plainFor_of_name pn_2) ?_
  intro p e s m below meth c s₁ hx hby hml hret hlk hown hnm hZ X0 e0
  have N0 := Fr.nil n0
  rw [ef_5 m a1 (0 : Int64)]
  show OwnG p e below s _ _ _ (s₁.setTop (mkF m 0 #[.val (.ref a1), .val (.long (0 : Int64)), .second, .unset, .unset, .unset, .unset] []))
  refine own_by (fun t kk_ => XS.lloadN X0.here hx rfl (hb hby d5_0) rfl  kk_) ?_
  show OwnG p e below s _ _ _ (s₁.setTop (mkF m 1 #[.val (.ref a1), .val (.long (0 : Int64)), .second, .unset, .unset, .unset, .unset] [(.long (0 : Int64))]))
  refine own_by (fun t kk_ => XS.aloadN X0.here hx rfl (hb hby d5_1) rfl rfl kk_) ?_
  show OwnG p e below s _ _ _ (s₁.setTop (mkF m 2 #[.val (.ref a1), .val (.long (0 : Int64)), .second, .unset, .unset, .unset, .unset] [(.ref a1), (.long (0 : Int64))]))
  obtain ⟨T1, X1, e1, st1⟩ := getF X0 hx hZ hown (host := "") (Or.inl (hw _ (List.mem_of_getElem? (i := 17) rfl))) Via.refl e0 FR (g := (mkF m 2 #[.val (.ref a1), .val (.long (0 : Int64)), .second, .unset, .unset, .unset, .unset] [(.ref a1), (.long (0 : Int64))])) rfl rfl (hb hby d5_2)
  refine own_by (fun t kk_ => st1 _ kk_) ?_
  show OwnG p e below s _ _ _ (T1.setTop (mkF m 5 #[.val (.ref a1), .val (.long (0 : Int64)), .second, .unset, .unset, .unset, .unset] [(.long R), (.long (0 : Int64))]))
  refine own_by (fun t kk_ => XS.ldiv X1.here hx rfl (hb hby d5_5) rfl hnz kk_) ?_
  show OwnG p e below s _ _ _ (T1.setTop (mkF m 6 #[.val (.ref a1), .val (.long (0 : Int64)), .second, .unset, .unset, .unset, .unset] [(.long ((0 : Int64) / R))]))
  rw [own_zdiv R]
  show OwnG p e below s _ _ _ (T1.setTop (mkF m 6 #[.val (.ref a1), .val (.long (0 : Int64)), .second, .unset, .unset, .unset, .unset] [(.long (0 : Int64))]))
  refine own_by (fun t kk_ => XS.lstoreN X1.here hx rfl (hb hby d5_6) rfl (l' := #[.val (.ref a1), .val (.long (0 : Int64)), .second, .val (.long (0 : Int64)), .second, .unset, .unset]) rfl kk_) ?_
  show OwnG p e below s _ _ _ (T1.setTop (mkF m 7 #[.val (.ref a1), .val (.long (0 : Int64)), .second, .val (.long (0 : Int64)), .second, .unset, .unset] []))
  refine own_by (fun t kk_ => XS.lloadN X1.here hx rfl (hb hby d5_7) rfl  kk_) ?_
  show OwnG p e below s _ _ _ (T1.setTop (mkF m 8 #[.val (.ref a1), .val (.long (0 : Int64)), .second, .val (.long (0 : Int64)), .second, .unset, .unset] [(.long (0 : Int64))]))
  refine own_by (fun t kk_ => XS.aloadN X1.here hx rfl (hb hby d5_8) rfl rfl kk_) ?_
  show OwnG p e below s _ _ _ (T1.setTop (mkF m 9 #[.val (.ref a1), .val (.long (0 : Int64)), .second, .val (.long (0 : Int64)), .second, .unset, .unset] [(.ref a1), (.long (0 : Int64))]))
  obtain ⟨T2, X2, e2, st2⟩ := getF X1 hx hZ hown (host := "") (Or.inl (hw _ (List.mem_of_getElem? (i := 17) rfl))) Via.refl e1 FR (g := (mkF m 9 #[.val (.ref a1), .val (.long (0 : Int64)), .second, .val (.long (0 : Int64)), .second, .unset, .unset] [(.ref a1), (.long (0 : Int64))])) rfl rfl (hb hby d5_9)
  refine own_by (fun t kk_ => st2 _ kk_) ?_
  show OwnG p e below s _ _ _ (T2.setTop (mkF m 12 #[.val (.ref a1), .val (.long (0 : Int64)), .second, .val (.long (0 : Int64)), .second, .unset, .unset] [(.long R), (.long (0 : Int64))]))
  refine own_by (fun t kk_ => XS.lrem X2.here hx rfl (hb hby d5_12) rfl hnz kk_) ?_
  show OwnG p e below s _ _ _ (T2.setTop (mkF m 13 #[.val (.ref a1), .val (.long (0 : Int64)), .second, .val (.long (0 : Int64)), .second, .unset, .unset] [(.long ((0 : Int64) - ((0 : Int64) / R) * R))]))
  rw [own_zrem R]
  show OwnG p e below s _ _ _ (T2.setTop (mkF m 13 #[.val (.ref a1), .val (.long (0 : Int64)), .second, .val (.long (0 : Int64)), .second, .unset, .unset] [(.long (0 : Int64))]))
  obtain ⟨T3, X3, e3, st3⟩ := getS2 X2 hx hZ hown (host := "") (Or.inl (hw _ (List.mem_of_getElem? (i := 39) rfl))) Via.refl e2 SP (g := (mkF m 13 #[.val (.ref a1), .val (.long (0 : Int64)), .second, .val (.long (0 : Int64)), .second, .unset, .unset] [(.long (0 : Int64))])) rfl (hb hby d5_13)
  refine own_by (fun t kk_ => st3 _ kk_) ?_
  show OwnG p e below s _ _ _ (T3.setTop (mkF m 16 #[.val (.ref a1), .val (.long (0 : Int64)), .second, .val (.long (0 : Int64)), .second, .unset, .unset] [(.long sp), (.long (0 : Int64))]))
  refine own_by (fun t kk_ => XS.lmul X3.here hx rfl (hb hby d5_16) rfl kk_) ?_
  show OwnG p e below s _ _ _ (T3.setTop (mkF m 17 #[.val (.ref a1), .val (.long (0 : Int64)), .second, .val (.long (0 : Int64)), .second, .unset, .unset] [(.long ((0 : Int64) * sp))]))
  rw [show (0 : Int64) * sp = 0 from Int64.zero_mul]
  show OwnG p e below s _ _ _ (T3.setTop (mkF m 17 #[.val (.ref a1), .val (.long (0 : Int64)), .second, .val (.long (0 : Int64)), .second, .unset, .unset] [(.long (0 : Int64))]))
  refine own_by (fun t kk_ => XS.lstore X3.here hx rfl (hb hby d5_17) rfl (l' := #[.val (.ref a1), .val (.long (0 : Int64)), .second, .val (.long (0 : Int64)), .second, .val (.long (0 : Int64)), .second]) rfl kk_) ?_
  show OwnG p e below s _ _ _ (T3.setTop (mkF m 19 #[.val (.ref a1), .val (.long (0 : Int64)), .second, .val (.long (0 : Int64)), .second, .val (.long (0 : Int64)), .second] []))
  refine own_by (fun t kk_ => XS.lloadN X3.here hx rfl (hb hby d5_19) rfl  kk_) ?_
  show OwnG p e below s _ _ _ (T3.setTop (mkF m 20 #[.val (.ref a1), .val (.long (0 : Int64)), .second, .val (.long (0 : Int64)), .second, .val (.long (0 : Int64)), .second] [(.long (0 : Int64))]))
  obtain ⟨T4, X4, e4, st4⟩ := getS2 X3 hx hZ hown (host := "") (Or.inl (hw _ (List.mem_of_getElem? (i := 39) rfl))) Via.refl e3 SP (g := (mkF m 20 #[.val (.ref a1), .val (.long (0 : Int64)), .second, .val (.long (0 : Int64)), .second, .val (.long (0 : Int64)), .second] [(.long (0 : Int64))])) rfl (hb hby d5_20)
  refine own_by (fun t kk_ => st4 _ kk_) ?_
  show OwnG p e below s _ _ _ (T4.setTop (mkF m 23 #[.val (.ref a1), .val (.long (0 : Int64)), .second, .val (.long (0 : Int64)), .second, .val (.long (0 : Int64)), .second] [(.long sp), (.long (0 : Int64))]))
  refine own_by (fun t kk_ => XS.lmul X4.here hx rfl (hb hby d5_23) rfl kk_) ?_
  show OwnG p e below s _ _ _ (T4.setTop (mkF m 24 #[.val (.ref a1), .val (.long (0 : Int64)), .second, .val (.long (0 : Int64)), .second, .val (.long (0 : Int64)), .second] [(.long ((0 : Int64) * sp))]))
  rw [show (0 : Int64) * sp = 0 from Int64.zero_mul]
  show OwnG p e below s _ _ _ (T4.setTop (mkF m 24 #[.val (.ref a1), .val (.long (0 : Int64)), .second, .val (.long (0 : Int64)), .second, .val (.long (0 : Int64)), .second] [(.long (0 : Int64))]))
  refine own_by (fun t kk_ => XS.lload X4.here hx rfl (hb hby d5_24) rfl  kk_) ?_
  show OwnG p e below s _ _ _ (T4.setTop (mkF m 26 #[.val (.ref a1), .val (.long (0 : Int64)), .second, .val (.long (0 : Int64)), .second, .val (.long (0 : Int64)), .second] [(.long (0 : Int64)), (.long (0 : Int64))]))
  refine own_by (fun t kk_ => XS.aloadN X4.here hx rfl (hb hby d5_26) rfl rfl kk_) ?_
  show OwnG p e below s _ _ _ (T4.setTop (mkF m 27 #[.val (.ref a1), .val (.long (0 : Int64)), .second, .val (.long (0 : Int64)), .second, .val (.long (0 : Int64)), .second] [(.ref a1), (.long (0 : Int64)), (.long (0 : Int64))]))
  obtain ⟨T5, X5, e5, st5⟩ := getF X4 hx hZ hown (host := "") (Or.inl (hw _ (List.mem_of_getElem? (i := 17) rfl))) Via.refl e4 FR (g := (mkF m 27 #[.val (.ref a1), .val (.long (0 : Int64)), .second, .val (.long (0 : Int64)), .second, .val (.long (0 : Int64)), .second] [(.ref a1), (.long (0 : Int64)), (.long (0 : Int64))])) rfl rfl (hb hby d5_27)
  refine own_by (fun t kk_ => st5 _ kk_) ?_
  show OwnG p e below s _ _ _ (T5.setTop (mkF m 30 #[.val (.ref a1), .val (.long (0 : Int64)), .second, .val (.long (0 : Int64)), .second, .val (.long (0 : Int64)), .second] [(.long R), (.long (0 : Int64)), (.long (0 : Int64))]))
  obtain ⟨_, _, ⟨T6, L6, k6, n6⟩, -, X6, ⟨Lc6, hQ6, l6, y6, z6⟩, st6⟩ := Jvm.LawKit.callS X5 hx (y := (⟨"com/example/gasholder/gasholder/Fraction", "nearest", "(JJ)J"⟩ : MethodName)) hown (mvT hZ (hw _ (List.mem_of_getElem? (i := 41) rfl))) (mvT hZ (hw _ (List.mem_of_getElem? (i := 42) rfl))) (mvT hZ (hw _ (List.mem_of_getElem? (i := 43) rfl))) (mvT hZ (hw _ (List.mem_of_getElem? (i := 44) rfl))) (by decide) (backOf (W := 2) (rm6 l Z a0 hw [] R h0 n0 Z0 hR hnz) hZ (hw _ (List.mem_of_getElem? (i := 44) rfl)) (hw _ (List.mem_of_getElem? (i := 43) rfl)) (by decide) (by decide)) (g := (mkF m 30 #[.val (.ref a1), .val (.long (0 : Int64)), .second, .val (.long (0 : Int64)), .second, .val (.long (0 : Int64)), .second] [(.long R), (.long (0 : Int64)), (.long (0 : Int64))])) rfl (by rw [hml]; rfl) (argsL := [(.long (0 : Int64)), (.long R)]) (rest := [(.long (0 : Int64))]) (lenOf pd_1 rfl) rfl (by show 2 * 0 + _ ≤ _; exact Nat.le_of_eq rfl) (hb hby d5_30) (fun _ _ => ⟨rfl, e5, (by decide : 0 + 0 ≤ _), (by decide : 0 + 0 ≤ _)⟩)
  dsimp only [Pt.U, Pt.locs, Pt.cells, Pt.slots] at X6 l6 y6 z6 st6 hQ6
  subst l6 y6 z6
  refine own_by (fun t kk_ => st6 _ kk_) ?_
  obtain ⟨rfl, N6q, hh6⟩ := hQ6
  have N6 := Fr.app N0 N6q
  have eh6 : T6.heap = h0 := hh6.trans rfl
  have f7 := SZ
  rw [← hh6] at f7
  have f8 := SP
  rw [← hh6] at f8
  have f9 := FR
  rw [← hh6] at f9
  have sz6 : n0 ≤ T6.heap.size := by rw [hh6]; exact Z0
  show OwnG p e below s _ _ _ (T6.setTop (mkF m 33 #[.val (.ref a1), .val (.long (0 : Int64)), .second, .val (.long (0 : Int64)), .second, .val (.long (0 : Int64)), .second] [(.long (0 : Int64)), (.long (0 : Int64))]))
  refine own_by (fun t kk_ => XS.ladd X6.here hx rfl (hb hby d5_33) rfl kk_) ?_
  show OwnG p e below s _ _ _ (T6.setTop (mkF m 34 #[.val (.ref a1), .val (.long (0 : Int64)), .second, .val (.long (0 : Int64)), .second, .val (.long (0 : Int64)), .second] [(.long ((0 : Int64) + (0 : Int64)))]))
  rw [show (0 : Int64) + 0 = 0 from by decide]
  show OwnG p e below s _ _ _ (T6.setTop (mkF m 34 #[.val (.ref a1), .val (.long (0 : Int64)), .second, .val (.long (0 : Int64)), .second, .val (.long (0 : Int64)), .second] [(.long (0 : Int64))]))
  obtain ⟨_, _, ⟨T10, L10, k10, n10⟩, -, X10, ⟨Lc10, hQ10, l10, y10, z10⟩, st10⟩ := Jvm.LawKit.callS X6 hx (y := (⟨"java/time/Duration", "ofSeconds", "(J)Ljava/time/Duration;"⟩ : MethodName)) hown (mvT hZ (hw _ (List.mem_of_getElem? (i := 45) rfl))) (mvT hZ (hw _ (List.mem_of_getElem? (i := 46) rfl))) (mvT hZ (hw _ (List.mem_of_getElem? (i := 47) rfl))) (mvT hZ (hw _ (List.mem_of_getElem? (i := 48) rfl))) (by decide) (backOf (W := 0) (rm7 l Z a0 hw [] zd T6.heap n0 sz6 f7) hZ (hw _ (List.mem_of_getElem? (i := 48) rfl)) (hw _ (List.mem_of_getElem? (i := 47) rfl)) (by decide) (by decide)) (g := (mkF m 34 #[.val (.ref a1), .val (.long (0 : Int64)), .second, .val (.long (0 : Int64)), .second, .val (.long (0 : Int64)), .second] [(.long (0 : Int64))])) rfl (by rw [hml]; rfl) (argsL := [(.long (0 : Int64))]) (rest := []) (lenOf pd_2 rfl) rfl (by show 2 * 0 + _ ≤ _; exact Nat.le_of_eq rfl) (hb hby d5_34) (fun _ _ => ⟨rfl, (rfl : T6.heap = T6.heap), (by decide : 0 + 0 ≤ _), (by decide : 0 + 0 ≤ _)⟩)
  dsimp only [Pt.U, Pt.locs, Pt.cells, Pt.slots] at X10 l10 y10 z10 st10 hQ10
  subst l10 y10 z10
  refine own_by (fun t kk_ => st10 _ kk_) ?_
  obtain ⟨rfl, N10q, hh10⟩ := hQ10
  have N10 := Fr.app N6 N10q
  have eh10 : T10.heap = h0 := hh10.trans eh6
  have f11 := f7
  rw [← hh10] at f11
  have f12 := f8
  rw [← hh10] at f12
  have f13 := f9
  rw [← hh10] at f13
  have sz10 : n0 ≤ T10.heap.size := by rw [hh10]; exact sz6
  show OwnG p e below s _ _ _ (T10.setTop (mkF m 37 #[.val (.ref a1), .val (.long (0 : Int64)), .second, .val (.long (0 : Int64)), .second, .val (.long (0 : Int64)), .second] [(.ref zd)]))
  exact own_outA X10 hx rfl rfl hret hlk (hb hby d5_37) (⟨rfl, N10, eh10⟩) (by decide) (by decide)
theorem d9_0 : decode prog_8_method_3_code 0 = .ok (.aload_n 0, 1) := by decide +kernel
theorem d9_1 : decode prog_8_method_3_code 1 = .ok (.getfield 27, 3) := by decide +kernel
theorem d9_4 : decode prog_8_method_3_code 4 = .ok (.lreturn, 1) := by decide +kernel
theorem ef_9 (m : MethodId) (x0 : Addr) : entryFrame m #[(.ref x0)] 1 = mkF m 0 #[.val (.ref x0)] [] := by first | (simp [entryFrame, mkF, argsToLocals, Value.category]; done) | rfl
def Q9 (Z : State) (a1 sa ea : Addr) (R : Int64) (H : Nat) (runs : Int32) (sch : Int64) (fs fe : Nat → Value) (h0 : Heap) (n0 : Nat) (v : Option Value) (h : Heap) (L : List Loc) : Prop := v = some (.long sch) ∧ Fr n0 L ∧ h = h0
set_option maxRecDepth 65536 in
set_option maxHeartbeats 40000000 in
theorem rm9 (l : Launch) (Z : State) (a0 : Array Value) (hw : ∀ d ∈ tables_1, d.before a0 Z = true) (ws : List Jvm.Cond) (a1 sa ea : Addr) (R : Int64) (H : Nat) (runs : Int32) (sch : Int64) (fs fe : Nat → Value) (h0 : Heap) (n0 : Nat) (Z0 : n0 ≤ h0.size) (Ob : own_X Z h0 a1 sa ea R H.toInt32 runs sch fs fe) :
    MetFree l (⟨"com/example/gasholder/gasholder/Execution", "scheduled", "()J"⟩ : MethodName) (head1 (Jvm.Cond.code (⟨"com/example/gasholder/gasholder/Execution", "scheduled", "()J"⟩ : MethodName) prog_8_method_3_code 1 (some .long) :: ws) ({ frames := 0, cells := 0, slots := 0, locals := 0 } : Room)) (fun aa_ U => aa_ = #[(.ref a1)] ∧ Z.Warmed39 U.vm ∧ U.heap = h0) (fun _ _ _ _ _ => True) (fun _ U o U' => ∃ v L, o = .returned v ∧ Q9 Z a1 sa ea R H runs sch fs fe h0 n0 v U'.heap L ∧ FrameEnd U o U' L ({ frames := 0, cells := 0, slots := 0, locals := 0 } : Room).cells ({ frames := 0, cells := 0, slots := 0, locals := 0 } : Room).slots) := by
  refine own_met (Q := fun v h L => Q9 Z a1 sa ea R H runs sch fs fe h0 n0 v h L) (plainFor_of_name pn_2) ?_
  intro p e s m below meth c s₁ hx hby hml hret hlk hown hnm hZ X0 e0
  have N0 := Fr.nil n0
  rw [ef_9 m a1]
  show OwnG p e below s _ _ _ (s₁.setTop (mkF m 0 #[.val (.ref a1)] []))
  refine own_by (fun t kk_ => XS.aloadN X0.here hx rfl (hb hby d9_0) rfl rfl kk_) ?_
  show OwnG p e below s _ _ _ (s₁.setTop (mkF m 1 #[.val (.ref a1)] [(.ref a1)]))
  obtain ⟨T1, X1, e1, st1⟩ := getF X0 hx hZ hown (host := "") (Or.inl (hw _ (List.mem_of_getElem? (i := 53) rfl))) Via.refl e0 Ob.2.2.2.2.2.2.1 (g := (mkF m 1 #[.val (.ref a1)] [(.ref a1)])) rfl rfl (hb hby d9_1)
  refine own_by (fun t kk_ => st1 _ kk_) ?_
  show OwnG p e below s _ _ _ (T1.setTop (mkF m 4 #[.val (.ref a1)] [(.long sch)]))
  exact own_outL X1 hx hret hlk (hb hby d9_4) (⟨rfl, N0, e1⟩) (by decide) (by decide)
theorem d10_0 : decode prog_8_method_2_code 0 = .ok (.aload_n 0, 1) := by decide +kernel
theorem d10_1 : decode prog_8_method_2_code 1 = .ok (.getfield 20, 3) := by decide +kernel
theorem d10_4 : decode prog_8_method_2_code 4 = .ok (.i2l, 1) := by decide +kernel
theorem d10_5 : decode prog_8_method_2_code 5 = .ok (.lreturn, 1) := by decide +kernel
theorem ef_10 (m : MethodId) (x0 : Addr) : entryFrame m #[(.ref x0)] 1 = mkF m 0 #[.val (.ref x0)] [] := by first | (simp [entryFrame, mkF, argsToLocals, Value.category]; done) | rfl
def Q10 (Z : State) (a1 sa ea : Addr) (R : Int64) (H : Nat) (runs : Int32) (sch : Int64) (fs fe : Nat → Value) (h0 : Heap) (n0 : Nat) (v : Option Value) (h : Heap) (L : List Loc) : Prop := v = some (.long H.toInt32.toInt64) ∧ Fr n0 L ∧ h = h0
set_option maxRecDepth 65536 in
set_option maxHeartbeats 40000000 in
theorem rm10 (l : Launch) (Z : State) (a0 : Array Value) (hw : ∀ d ∈ tables_1, d.before a0 Z = true) (ws : List Jvm.Cond) (a1 sa ea : Addr) (R : Int64) (H : Nat) (runs : Int32) (sch : Int64) (fs fe : Nat → Value) (h0 : Heap) (n0 : Nat) (Z0 : n0 ≤ h0.size) (Ob : own_X Z h0 a1 sa ea R H.toInt32 runs sch fs fe) :
    MetFree l (⟨"com/example/gasholder/gasholder/Execution", "partsPerKwh", "()J"⟩ : MethodName) (head1 (Jvm.Cond.code (⟨"com/example/gasholder/gasholder/Execution", "partsPerKwh", "()J"⟩ : MethodName) prog_8_method_2_code 1 (some .long) :: ws) ({ frames := 0, cells := 0, slots := 0, locals := 0 } : Room)) (fun aa_ U => aa_ = #[(.ref a1)] ∧ Z.Warmed39 U.vm ∧ U.heap = h0) (fun _ _ _ _ _ => True) (fun _ U o U' => ∃ v L, o = .returned v ∧ Q10 Z a1 sa ea R H runs sch fs fe h0 n0 v U'.heap L ∧ FrameEnd U o U' L ({ frames := 0, cells := 0, slots := 0, locals := 0 } : Room).cells ({ frames := 0, cells := 0, slots := 0, locals := 0 } : Room).slots) := by
  refine own_met (Q := fun v h L => Q10 Z a1 sa ea R H runs sch fs fe h0 n0 v h L) (plainFor_of_name pn_2) ?_
  intro p e s m below meth c s₁ hx hby hml hret hlk hown hnm hZ X0 e0
  have N0 := Fr.nil n0
  rw [ef_10 m a1]
  show OwnG p e below s _ _ _ (s₁.setTop (mkF m 0 #[.val (.ref a1)] []))
  refine own_by (fun t kk_ => XS.aloadN X0.here hx rfl (hb hby d10_0) rfl rfl kk_) ?_
  show OwnG p e below s _ _ _ (s₁.setTop (mkF m 1 #[.val (.ref a1)] [(.ref a1)]))
  obtain ⟨T1, X1, e1, st1⟩ := getF X0 hx hZ hown (host := "") (Or.inl (hw _ (List.mem_of_getElem? (i := 19) rfl))) Via.refl e0 Ob.2.2.2.2.1 (g := (mkF m 1 #[.val (.ref a1)] [(.ref a1)])) rfl rfl (hb hby d10_1)
  refine own_by (fun t kk_ => st1 _ kk_) ?_
  show OwnG p e below s _ _ _ (T1.setTop (mkF m 4 #[.val (.ref a1)] [(.int H.toInt32)]))
  refine own_by (fun t kk_ => XS.i2l X1.here hx rfl (hb hby d10_4) rfl kk_) ?_
  show OwnG p e below s _ _ _ (T1.setTop (mkF m 5 #[.val (.ref a1)] [(.long (H.toInt32.toInt64))]))
  exact own_outL X1 hx hret hlk (hb hby d10_5) (⟨rfl, N0, e1⟩) (by decide) (by decide)
theorem d13_0 : decode prog_8_method_5_code 0 = .ok (.aload_n 0, 1) := by decide +kernel
theorem d13_1 : decode prog_8_method_5_code 1 = .ok (.getfield 20, 3) := by decide +kernel
theorem d13_4 : decode prog_8_method_5_code 4 = .ok (.iload_n 1, 1) := by decide +kernel
theorem d13_5 : decode prog_8_method_5_code 5 = .ok (.isub, 1) := by decide +kernel
theorem d13_6 : decode prog_8_method_5_code 6 = .ok (.i2l, 1) := by decide +kernel
theorem d13_7 : decode prog_8_method_5_code 7 = .ok (.aload_n 0, 1) := by decide +kernel
theorem d13_8 : decode prog_8_method_5_code 8 = .ok (.getfield 16, 3) := by decide +kernel
theorem d13_11 : decode prog_8_method_5_code 11 = .ok (.lmul, 1) := by decide +kernel
theorem d13_12 : decode prog_8_method_5_code 12 = .ok (.lreturn, 1) := by decide +kernel
theorem ef_13 (m : MethodId) (x0 : Addr) (x1 : Int32) : entryFrame m #[(.ref x0), (.int x1)] 2 = mkF m 0 #[.val (.ref x0), .val (.int x1)] [] := by first | (simp [entryFrame, mkF, argsToLocals, Value.category]; done) | rfl
def Q13 (Z : State) (a1 sa ea : Addr) (R : Int64) (H : Nat) (runs : Int32) (sch : Int64) (fs fe : Nat → Value) (hr : Nat) (h0 : Heap) (n0 : Nat) (v : Option Value) (h : Heap) (L : List Loc) : Prop := v = some (.long ((H.toInt32 - hr.toInt32).toInt64 * R)) ∧ Fr n0 L ∧ h = h0
set_option maxRecDepth 65536 in
set_option maxHeartbeats 40000000 in
theorem rm13 (l : Launch) (Z : State) (a0 : Array Value) (hw : ∀ d ∈ tables_1, d.before a0 Z = true) (ws : List Jvm.Cond) (a1 sa ea : Addr) (R : Int64) (H : Nat) (runs : Int32) (sch : Int64) (fs fe : Nat → Value) (hr : Nat) (h0 : Heap) (n0 : Nat) (Z0 : n0 ≤ h0.size) (Ob : own_X Z h0 a1 sa ea R H.toInt32 runs sch fs fe) :
    MetFree l (⟨"com/example/gasholder/gasholder/Execution", "mayStillFlowFrom", "(I)J"⟩ : MethodName) (head1 (Jvm.Cond.code (⟨"com/example/gasholder/gasholder/Execution", "mayStillFlowFrom", "(I)J"⟩ : MethodName) prog_8_method_5_code 2 (some .long) :: ws) ({ frames := 0, cells := 0, slots := 0, locals := 0 } : Room)) (fun aa_ U => aa_ = #[(.ref a1), (.int hr.toInt32)] ∧ Z.Warmed39 U.vm ∧ U.heap = h0) (fun _ _ _ _ _ => True) (fun _ U o U' => ∃ v L, o = .returned v ∧ Q13 Z a1 sa ea R H runs sch fs fe hr h0 n0 v U'.heap L ∧ FrameEnd U o U' L ({ frames := 0, cells := 0, slots := 0, locals := 0 } : Room).cells ({ frames := 0, cells := 0, slots := 0, locals := 0 } : Room).slots) := by
  refine own_met (Q := fun v h L => Q13 Z a1 sa ea R H runs sch fs fe hr h0 n0 v h L) (plainFor_of_name pn_2) ?_
  intro p e s m below meth c s₁ hx hby hml hret hlk hown hnm hZ X0 e0
  have N0 := Fr.nil n0
  rw [ef_13 m a1 hr.toInt32]
  show OwnG p e below s _ _ _ (s₁.setTop (mkF m 0 #[.val (.ref a1), .val (.int hr.toInt32)] []))
  refine own_by (fun t kk_ => XS.aloadN X0.here hx rfl (hb hby d13_0) rfl rfl kk_) ?_
  show OwnG p e below s _ _ _ (s₁.setTop (mkF m 1 #[.val (.ref a1), .val (.int hr.toInt32)] [(.ref a1)]))
  obtain ⟨T1, X1, e1, st1⟩ := getF X0 hx hZ hown (host := "") (Or.inl (hw _ (List.mem_of_getElem? (i := 19) rfl))) Via.refl e0 Ob.2.2.2.2.1 (g := (mkF m 1 #[.val (.ref a1), .val (.int hr.toInt32)] [(.ref a1)])) rfl rfl (hb hby d13_1)
  refine own_by (fun t kk_ => st1 _ kk_) ?_
  show OwnG p e below s _ _ _ (T1.setTop (mkF m 4 #[.val (.ref a1), .val (.int hr.toInt32)] [(.int H.toInt32)]))
  refine own_by (fun t kk_ => XS.iloadN X1.here hx rfl (hb hby d13_4) rfl  kk_) ?_
  show OwnG p e below s _ _ _ (T1.setTop (mkF m 5 #[.val (.ref a1), .val (.int hr.toInt32)] [(.int hr.toInt32), (.int H.toInt32)]))
  refine own_by (fun t kk_ => XS.isub X1.here hx rfl (hb hby d13_5) rfl kk_) ?_
  show OwnG p e below s _ _ _ (T1.setTop (mkF m 6 #[.val (.ref a1), .val (.int hr.toInt32)] [(.int (H.toInt32 - hr.toInt32))]))
  refine own_by (fun t kk_ => XS.i2l X1.here hx rfl (hb hby d13_6) rfl kk_) ?_
  show OwnG p e below s _ _ _ (T1.setTop (mkF m 7 #[.val (.ref a1), .val (.int hr.toInt32)] [(.long ((H.toInt32 - hr.toInt32).toInt64))]))
  refine own_by (fun t kk_ => XS.aloadN X1.here hx rfl (hb hby d13_7) rfl rfl kk_) ?_
  show OwnG p e below s _ _ _ (T1.setTop (mkF m 8 #[.val (.ref a1), .val (.int hr.toInt32)] [(.ref a1), (.long ((H.toInt32 - hr.toInt32).toInt64))]))
  obtain ⟨T2, X2, e2, st2⟩ := getF X1 hx hZ hown (host := "") (Or.inl (hw _ (List.mem_of_getElem? (i := 17) rfl))) Via.refl e1 Ob.2.2.2.1 (g := (mkF m 8 #[.val (.ref a1), .val (.int hr.toInt32)] [(.ref a1), (.long ((H.toInt32 - hr.toInt32).toInt64))])) rfl rfl (hb hby d13_8)
  refine own_by (fun t kk_ => st2 _ kk_) ?_
  show OwnG p e below s _ _ _ (T2.setTop (mkF m 11 #[.val (.ref a1), .val (.int hr.toInt32)] [(.long R), (.long ((H.toInt32 - hr.toInt32).toInt64))]))
  refine own_by (fun t kk_ => XS.lmul X2.here hx rfl (hb hby d13_11) rfl kk_) ?_
  show OwnG p e below s _ _ _ (T2.setTop (mkF m 12 #[.val (.ref a1), .val (.int hr.toInt32)] [(.long (((H.toInt32 - hr.toInt32).toInt64) * R))]))
  exact own_outL X2 hx hret hlk (hb hby d13_12) (⟨rfl, N0, e2⟩) (by decide) (by decide)
theorem d4_0 : decode prog_8_method_4_code 0 = .ok (.iload_n 1, 1) := by decide +kernel
theorem d4_1 : decode prog_8_method_4_code 1 = .ok (.i2l, 1) := by decide +kernel
theorem d4_2 : decode prog_8_method_4_code 2 = .ok (.aload_n 0, 1) := by decide +kernel
theorem d4_3 : decode prog_8_method_4_code 3 = .ok (.getfield 16, 3) := by decide +kernel
theorem d4_6 : decode prog_8_method_4_code 6 = .ok (.lmul, 1) := by decide +kernel
theorem d4_7 : decode prog_8_method_4_code 7 = .ok (.lstore_n 2, 1) := by decide +kernel
theorem d4_8 : decode prog_8_method_4_code 8 = .ok (.lconst 0, 1) := by decide +kernel
theorem d4_9 : decode prog_8_method_4_code 9 = .ok (.lstore 4, 2) := by decide +kernel
theorem d4_11 : decode prog_8_method_4_code 11 = .ok (.iconst 0, 1) := by decide +kernel
theorem d4_12 : decode prog_8_method_4_code 12 = .ok (.istore 6, 2) := by decide +kernel
theorem d4_14 : decode prog_8_method_4_code 14 = .ok (.iload 6, 2) := by decide +kernel
theorem d4_16 : decode prog_8_method_4_code 16 = .ok (.aload_n 0, 1) := by decide +kernel
theorem d4_17 : decode prog_8_method_4_code 17 = .ok (.getfield 30, 3) := by decide +kernel
theorem d4_20 : decode prog_8_method_4_code 20 = .ok (.if_icmp .ge 37, 3) := by decide +kernel
theorem d4_23 : decode prog_8_method_4_code 23 = .ok (.lload 4, 2) := by decide +kernel
theorem d4_25 : decode prog_8_method_4_code 25 = .ok (.lconst 0, 1) := by decide +kernel
theorem d4_26 : decode prog_8_method_4_code 26 = .ok (.aload_n 0, 1) := by decide +kernel
theorem d4_27 : decode prog_8_method_4_code 27 = .ok (.getfield 13, 3) := by decide +kernel
theorem d4_30 : decode prog_8_method_4_code 30 = .ok (.iload 6, 2) := by decide +kernel
theorem d4_32 : decode prog_8_method_4_code 32 = .ok (.laload, 1) := by decide +kernel
theorem d4_33 : decode prog_8_method_4_code 33 = .ok (.lload_n 2, 1) := by decide +kernel
theorem d4_34 : decode prog_8_method_4_code 34 = .ok (.invokestatic 33, 3) := by decide +kernel
theorem d4_37 : decode prog_8_method_4_code 37 = .ok (.aload_n 0, 1) := by decide +kernel
theorem d4_38 : decode prog_8_method_4_code 38 = .ok (.getfield 7, 3) := by decide +kernel
theorem d4_41 : decode prog_8_method_4_code 41 = .ok (.iload 6, 2) := by decide +kernel
theorem d4_43 : decode prog_8_method_4_code 43 = .ok (.laload, 1) := by decide +kernel
theorem d4_44 : decode prog_8_method_4_code 44 = .ok (.lsub, 1) := by decide +kernel
theorem d4_45 : decode prog_8_method_4_code 45 = .ok (.invokestatic 39, 3) := by decide +kernel
theorem d4_48 : decode prog_8_method_4_code 48 = .ok (.ladd, 1) := by decide +kernel
theorem d4_49 : decode prog_8_method_4_code 49 = .ok (.lstore 4, 2) := by decide +kernel
theorem d4_51 : decode prog_8_method_4_code 51 = .ok (.iinc 6 1, 3) := by decide +kernel
theorem d4_54 : decode prog_8_method_4_code 54 = .ok (.goto (-40), 3) := by decide +kernel
theorem d4_57 : decode prog_8_method_4_code 57 = .ok (.lload 4, 2) := by decide +kernel
theorem d4_59 : decode prog_8_method_4_code 59 = .ok (.lreturn, 1) := by decide +kernel
theorem ef_4z (m : MethodId) (x0 : Addr) (x1 : Int32) : entryFrame m #[(.ref x0), (.int x1)] 7 = mkF m 0 #[.val (.ref x0), .val (.int x1), .unset, .unset, .unset, .unset, .unset] [] := by first | (simp [entryFrame, mkF, argsToLocals, Value.category]; done) | rfl
def Q4z (Z : State) (a1 sa ea : Addr) (R : Int64) (H hr : Nat) (sch : Int64) (fs fe : Nat → Value) (h0 : Heap) (n0 : Nat) (v : Option Value) (h : Heap) (L : List Loc) : Prop := v = some (.long (0 : Int64)) ∧ Fr n0 L ∧ h = h0
set_option maxRecDepth 65536 in
set_option maxHeartbeats 40000000 in
theorem rm4z (l : Launch) (Z : State) (a0 : Array Value) (hw : ∀ d ∈ tables_1, d.before a0 Z = true) (ws : List Jvm.Cond) (a1 sa ea : Addr) (R : Int64) (H hr : Nat) (sch : Int64) (fs fe : Nat → Value) (h0 : Heap) (n0 : Nat) (Z0 : n0 ≤ h0.size) (Ob : own_X Z h0 a1 sa ea R H.toInt32 0 sch fs fe) :
    MetFree l (⟨"com/example/gasholder/gasholder/Execution", "flowedBy", "(I)J"⟩ : MethodName) (head1 (Jvm.Cond.code (⟨"com/example/gasholder/gasholder/Execution", "flowedBy", "(I)J"⟩ : MethodName) prog_8_method_4_code 7 (some .long) :: ws) ({ frames := 0, cells := 0, slots := 0, locals := 0 } : Room)) (fun aa_ U => aa_ = #[(.ref a1), (.int hr.toInt32)] ∧ Z.Warmed39 U.vm ∧ U.heap = h0) (fun _ _ _ _ _ => True) (fun _ U o U' => ∃ v L, o = .returned v ∧ Q4z Z a1 sa ea R H hr sch fs fe h0 n0 v U'.heap L ∧ FrameEnd U o U' L ({ frames := 0, cells := 0, slots := 0, locals := 0 } : Room).cells ({ frames := 0, cells := 0, slots := 0, locals := 0 } : Room).slots) := by
  refine own_met (Q := fun v h L => Q4z Z a1 sa ea R H hr sch fs fe h0 n0 v h L) (plainFor_of_name pn_2) ?_
  intro p e s m below meth c s₁ hx hby hml hret hlk hown hnm hZ X0 e0
  have N0 := Fr.nil n0
  rw [ef_4z m a1 hr.toInt32]
  show OwnG p e below s _ _ _ (s₁.setTop (mkF m 0 #[.val (.ref a1), .val (.int hr.toInt32), .unset, .unset, .unset, .unset, .unset] []))
  refine own_by (fun t kk_ => XS.iloadN X0.here hx rfl (hb hby d4_0) rfl  kk_) ?_
  show OwnG p e below s _ _ _ (s₁.setTop (mkF m 1 #[.val (.ref a1), .val (.int hr.toInt32), .unset, .unset, .unset, .unset, .unset] [(.int hr.toInt32)]))
  refine own_by (fun t kk_ => XS.i2l X0.here hx rfl (hb hby d4_1) rfl kk_) ?_
  show OwnG p e below s _ _ _ (s₁.setTop (mkF m 2 #[.val (.ref a1), .val (.int hr.toInt32), .unset, .unset, .unset, .unset, .unset] [(.long (hr.toInt32.toInt64))]))
  refine own_by (fun t kk_ => XS.aloadN X0.here hx rfl (hb hby d4_2) rfl rfl kk_) ?_
  show OwnG p e below s _ _ _ (s₁.setTop (mkF m 3 #[.val (.ref a1), .val (.int hr.toInt32), .unset, .unset, .unset, .unset, .unset] [(.ref a1), (.long (hr.toInt32.toInt64))]))
  obtain ⟨T1, X1, e1, st1⟩ := getF X0 hx hZ hown (host := "") (Or.inl (hw _ (List.mem_of_getElem? (i := 17) rfl))) Via.refl e0 Ob.2.2.2.1 (g := (mkF m 3 #[.val (.ref a1), .val (.int hr.toInt32), .unset, .unset, .unset, .unset, .unset] [(.ref a1), (.long (hr.toInt32.toInt64))])) rfl rfl (hb hby d4_3)
  refine own_by (fun t kk_ => st1 _ kk_) ?_
  show OwnG p e below s _ _ _ (T1.setTop (mkF m 6 #[.val (.ref a1), .val (.int hr.toInt32), .unset, .unset, .unset, .unset, .unset] [(.long R), (.long (hr.toInt32.toInt64))]))
  refine own_by (fun t kk_ => XS.lmul X1.here hx rfl (hb hby d4_6) rfl kk_) ?_
  show OwnG p e below s _ _ _ (T1.setTop (mkF m 7 #[.val (.ref a1), .val (.int hr.toInt32), .unset, .unset, .unset, .unset, .unset] [(.long ((hr.toInt32.toInt64) * R))]))
  refine own_by (fun t kk_ => XS.lstoreN X1.here hx rfl (hb hby d4_7) rfl (l' := #[.val (.ref a1), .val (.int hr.toInt32), .val (.long ((hr.toInt32.toInt64) * R)), .second, .unset, .unset, .unset]) rfl kk_) ?_
  show OwnG p e below s _ _ _ (T1.setTop (mkF m 8 #[.val (.ref a1), .val (.int hr.toInt32), .val (.long ((hr.toInt32.toInt64) * R)), .second, .unset, .unset, .unset] []))
  refine own_by (fun t kk_ => XS.lconst X1.here hx rfl (hb hby d4_8) kk_) ?_
  show OwnG p e below s _ _ _ (T1.setTop (mkF m 9 #[.val (.ref a1), .val (.int hr.toInt32), .val (.long ((hr.toInt32.toInt64) * R)), .second, .unset, .unset, .unset] [(.long (0 : Int64))]))
  refine own_by (fun t kk_ => XS.lstore X1.here hx rfl (hb hby d4_9) rfl (l' := #[.val (.ref a1), .val (.int hr.toInt32), .val (.long ((hr.toInt32.toInt64) * R)), .second, .val (.long (0 : Int64)), .second, .unset]) rfl kk_) ?_
  show OwnG p e below s _ _ _ (T1.setTop (mkF m 11 #[.val (.ref a1), .val (.int hr.toInt32), .val (.long ((hr.toInt32.toInt64) * R)), .second, .val (.long (0 : Int64)), .second, .unset] []))
  refine own_by (fun t kk_ => XS.iconst X1.here hx rfl (hb hby d4_11) kk_) ?_
  show OwnG p e below s _ _ _ (T1.setTop (mkF m 12 #[.val (.ref a1), .val (.int hr.toInt32), .val (.long ((hr.toInt32.toInt64) * R)), .second, .val (.long (0 : Int64)), .second, .unset] [(.int (0 : Int32))]))
  refine own_by (fun t kk_ => XS.istore X1.here hx rfl (hb hby d4_12) rfl (l' := #[.val (.ref a1), .val (.int hr.toInt32), .val (.long ((hr.toInt32.toInt64) * R)), .second, .val (.long (0 : Int64)), .second, .val (.int (0 : Int32))]) rfl kk_) ?_
  show OwnG p e below s _ _ _ (T1.setTop (mkF m 14 #[.val (.ref a1), .val (.int hr.toInt32), .val (.long ((hr.toInt32.toInt64) * R)), .second, .val (.long (0 : Int64)), .second, .val (.int (0 : Int32))] []))
  refine own_by (fun t kk_ => XS.iload X1.here hx rfl (hb hby d4_14) rfl  kk_) ?_
  show OwnG p e below s _ _ _ (T1.setTop (mkF m 16 #[.val (.ref a1), .val (.int hr.toInt32), .val (.long ((hr.toInt32.toInt64) * R)), .second, .val (.long (0 : Int64)), .second, .val (.int (0 : Int32))] [(.int (0 : Int32))]))
  refine own_by (fun t kk_ => XS.aloadN X1.here hx rfl (hb hby d4_16) rfl rfl kk_) ?_
  show OwnG p e below s _ _ _ (T1.setTop (mkF m 17 #[.val (.ref a1), .val (.int hr.toInt32), .val (.long ((hr.toInt32.toInt64) * R)), .second, .val (.long (0 : Int64)), .second, .val (.int (0 : Int32))] [(.ref a1), (.int (0 : Int32))]))
  obtain ⟨T2, X2, e2, st2⟩ := getF X1 hx hZ hown (host := "") (Or.inl (hw _ (List.mem_of_getElem? (i := 33) rfl))) Via.refl e1 Ob.2.2.2.2.2.1 (g := (mkF m 17 #[.val (.ref a1), .val (.int hr.toInt32), .val (.long ((hr.toInt32.toInt64) * R)), .second, .val (.long (0 : Int64)), .second, .val (.int (0 : Int32))] [(.ref a1), (.int (0 : Int32))])) rfl rfl (hb hby d4_17)
  refine own_by (fun t kk_ => st2 _ kk_) ?_
  show OwnG p e below s _ _ _ (T2.setTop (mkF m 20 #[.val (.ref a1), .val (.int hr.toInt32), .val (.long ((hr.toInt32.toInt64) * R)), .second, .val (.long (0 : Int64)), .second, .val (.int (0 : Int32))] [(.int (0 : Int32)), (.int (0 : Int32))]))
  refine own_by (fun t kk_ => XS.icmpYes X2.here hx rfl (pc0 := 20) (pc' := 57) rfl (hb hby d4_20) rfl (flt (by decide)).2.1 (by decide) (by decide) kk_) ?_
  show OwnG p e below s _ _ _ (T2.setTop (mkF m 57 #[.val (.ref a1), .val (.int hr.toInt32), .val (.long ((hr.toInt32.toInt64) * R)), .second, .val (.long (0 : Int64)), .second, .val (.int (0 : Int32))] []))
  refine own_by (fun t kk_ => XS.lload X2.here hx rfl (hb hby d4_57) rfl  kk_) ?_
  show OwnG p e below s _ _ _ (T2.setTop (mkF m 59 #[.val (.ref a1), .val (.int hr.toInt32), .val (.long ((hr.toInt32.toInt64) * R)), .second, .val (.long (0 : Int64)), .second, .val (.int (0 : Int32))] [(.long (0 : Int64))]))
  exact own_outL X2 hx hret hlk (hb hby d4_59) (⟨rfl, N0, e2⟩) (by decide) (by decide)
theorem ef_4p (m : MethodId) (x0 : Addr) (x1 : Int32) : entryFrame m #[(.ref x0), (.int x1)] 7 = mkF m 0 #[.val (.ref x0), .val (.int x1), .unset, .unset, .unset, .unset, .unset] [] := by first | (simp [entryFrame, mkF, argsToLocals, Value.category]; done) | rfl
def Q4p (Z : State) (a1 sa ea : Addr) (R : Int64) (H hr : Nat) (sch : Int64) (fs fe : Nat → Value) (h0 : Heap) (n0 : Nat) (v : Option Value) (h : Heap) (L : List Loc) : Prop := v = some (.long (hr.toInt32.toInt64 * R)) ∧ Fr n0 L ∧ h = h0
set_option maxRecDepth 65536 in
set_option maxHeartbeats 40000000 in
theorem rm4p (l : Launch) (Z : State) (a0 : Array Value) (hw : ∀ d ∈ tables_1, d.before a0 Z = true) (ws : List Jvm.Cond) (a1 sa ea : Addr) (R : Int64) (H hr : Nat) (sch : Int64) (fs fe : Nat → Value) (h0 : Heap) (n0 : Nat) (Z0 : n0 ≤ h0.size) (Ob : own_X Z h0 a1 sa ea R H.toInt32 1 sch fs fe) (hfs : fs 0 = .long 0) (hfe : fe 0 = .long (H.toInt32.toInt64 * R)) (hB : ownB R) (hhr : hr ≤ H) (hH : H ≤ 25) :
    MetFree l (⟨"com/example/gasholder/gasholder/Execution", "flowedBy", "(I)J"⟩ : MethodName) (head1 (Jvm.Cond.code (⟨"com/example/gasholder/gasholder/Execution", "flowedBy", "(I)J"⟩ : MethodName) prog_8_method_4_code 7 (some .long) :: ws) ({ frames := 1, cells := 0, slots := 0, locals := 19 } : Room)) (fun aa_ U => aa_ = #[(.ref a1), (.int hr.toInt32)] ∧ Z.Warmed39 U.vm ∧ U.heap = h0) (fun _ _ _ _ _ => True) (fun _ U o U' => ∃ v L, o = .returned v ∧ Q4p Z a1 sa ea R H hr sch fs fe h0 n0 v U'.heap L ∧ FrameEnd U o U' L ({ frames := 1, cells := 0, slots := 0, locals := 19 } : Room).cells ({ frames := 1, cells := 0, slots := 0, locals := 19 } : Room).slots) := by
  refine own_met (Q := fun v h L => Q4p Z a1 sa ea R H hr sch fs fe h0 n0 v h L) (plainFor_of_name pn_2) ?_
  intro p e s m below meth c s₁ hx hby hml hret hlk hown hnm hZ X0 e0
  have N0 := Fr.nil n0
  rw [ef_4p m a1 hr.toInt32]
  show OwnG p e below s _ _ _ (s₁.setTop (mkF m 0 #[.val (.ref a1), .val (.int hr.toInt32), .unset, .unset, .unset, .unset, .unset] []))
  refine own_by (fun t kk_ => XS.iloadN X0.here hx rfl (hb hby d4_0) rfl  kk_) ?_
  show OwnG p e below s _ _ _ (s₁.setTop (mkF m 1 #[.val (.ref a1), .val (.int hr.toInt32), .unset, .unset, .unset, .unset, .unset] [(.int hr.toInt32)]))
  refine own_by (fun t kk_ => XS.i2l X0.here hx rfl (hb hby d4_1) rfl kk_) ?_
  show OwnG p e below s _ _ _ (s₁.setTop (mkF m 2 #[.val (.ref a1), .val (.int hr.toInt32), .unset, .unset, .unset, .unset, .unset] [(.long (hr.toInt32.toInt64))]))
  refine own_by (fun t kk_ => XS.aloadN X0.here hx rfl (hb hby d4_2) rfl rfl kk_) ?_
  show OwnG p e below s _ _ _ (s₁.setTop (mkF m 3 #[.val (.ref a1), .val (.int hr.toInt32), .unset, .unset, .unset, .unset, .unset] [(.ref a1), (.long (hr.toInt32.toInt64))]))
  obtain ⟨T1, X1, e1, st1⟩ := getF X0 hx hZ hown (host := "") (Or.inl (hw _ (List.mem_of_getElem? (i := 17) rfl))) Via.refl e0 Ob.2.2.2.1 (g := (mkF m 3 #[.val (.ref a1), .val (.int hr.toInt32), .unset, .unset, .unset, .unset, .unset] [(.ref a1), (.long (hr.toInt32.toInt64))])) rfl rfl (hb hby d4_3)
  refine own_by (fun t kk_ => st1 _ kk_) ?_
  show OwnG p e below s _ _ _ (T1.setTop (mkF m 6 #[.val (.ref a1), .val (.int hr.toInt32), .unset, .unset, .unset, .unset, .unset] [(.long R), (.long (hr.toInt32.toInt64))]))
  refine own_by (fun t kk_ => XS.lmul X1.here hx rfl (hb hby d4_6) rfl kk_) ?_
  show OwnG p e below s _ _ _ (T1.setTop (mkF m 7 #[.val (.ref a1), .val (.int hr.toInt32), .unset, .unset, .unset, .unset, .unset] [(.long ((hr.toInt32.toInt64) * R))]))
  refine own_by (fun t kk_ => XS.lstoreN X1.here hx rfl (hb hby d4_7) rfl (l' := #[.val (.ref a1), .val (.int hr.toInt32), .val (.long ((hr.toInt32.toInt64) * R)), .second, .unset, .unset, .unset]) rfl kk_) ?_
  show OwnG p e below s _ _ _ (T1.setTop (mkF m 8 #[.val (.ref a1), .val (.int hr.toInt32), .val (.long ((hr.toInt32.toInt64) * R)), .second, .unset, .unset, .unset] []))
  refine own_by (fun t kk_ => XS.lconst X1.here hx rfl (hb hby d4_8) kk_) ?_
  show OwnG p e below s _ _ _ (T1.setTop (mkF m 9 #[.val (.ref a1), .val (.int hr.toInt32), .val (.long ((hr.toInt32.toInt64) * R)), .second, .unset, .unset, .unset] [(.long (0 : Int64))]))
  refine own_by (fun t kk_ => XS.lstore X1.here hx rfl (hb hby d4_9) rfl (l' := #[.val (.ref a1), .val (.int hr.toInt32), .val (.long ((hr.toInt32.toInt64) * R)), .second, .val (.long (0 : Int64)), .second, .unset]) rfl kk_) ?_
  show OwnG p e below s _ _ _ (T1.setTop (mkF m 11 #[.val (.ref a1), .val (.int hr.toInt32), .val (.long ((hr.toInt32.toInt64) * R)), .second, .val (.long (0 : Int64)), .second, .unset] []))
  refine own_by (fun t kk_ => XS.iconst X1.here hx rfl (hb hby d4_11) kk_) ?_
  show OwnG p e below s _ _ _ (T1.setTop (mkF m 12 #[.val (.ref a1), .val (.int hr.toInt32), .val (.long ((hr.toInt32.toInt64) * R)), .second, .val (.long (0 : Int64)), .second, .unset] [(.int (0 : Int32))]))
  refine own_by (fun t kk_ => XS.istore X1.here hx rfl (hb hby d4_12) rfl (l' := #[.val (.ref a1), .val (.int hr.toInt32), .val (.long ((hr.toInt32.toInt64) * R)), .second, .val (.long (0 : Int64)), .second, .val (.int (0 : Int32))]) rfl kk_) ?_
  show OwnG p e below s _ _ _ (T1.setTop (mkF m 14 #[.val (.ref a1), .val (.int hr.toInt32), .val (.long ((hr.toInt32.toInt64) * R)), .second, .val (.long (0 : Int64)), .second, .val (.int (0 : Int32))] []))
  refine own_by (fun t kk_ => XS.iload X1.here hx rfl (hb hby d4_14) rfl  kk_) ?_
  show OwnG p e below s _ _ _ (T1.setTop (mkF m 16 #[.val (.ref a1), .val (.int hr.toInt32), .val (.long ((hr.toInt32.toInt64) * R)), .second, .val (.long (0 : Int64)), .second, .val (.int (0 : Int32))] [(.int (0 : Int32))]))
  refine own_by (fun t kk_ => XS.aloadN X1.here hx rfl (hb hby d4_16) rfl rfl kk_) ?_
  show OwnG p e below s _ _ _ (T1.setTop (mkF m 17 #[.val (.ref a1), .val (.int hr.toInt32), .val (.long ((hr.toInt32.toInt64) * R)), .second, .val (.long (0 : Int64)), .second, .val (.int (0 : Int32))] [(.ref a1), (.int (0 : Int32))]))
  obtain ⟨T2, X2, e2, st2⟩ := getF X1 hx hZ hown (host := "") (Or.inl (hw _ (List.mem_of_getElem? (i := 33) rfl))) Via.refl e1 Ob.2.2.2.2.2.1 (g := (mkF m 17 #[.val (.ref a1), .val (.int hr.toInt32), .val (.long ((hr.toInt32.toInt64) * R)), .second, .val (.long (0 : Int64)), .second, .val (.int (0 : Int32))] [(.ref a1), (.int (0 : Int32))])) rfl rfl (hb hby d4_17)
  refine own_by (fun t kk_ => st2 _ kk_) ?_
  show OwnG p e below s _ _ _ (T2.setTop (mkF m 20 #[.val (.ref a1), .val (.int hr.toInt32), .val (.long ((hr.toInt32.toInt64) * R)), .second, .val (.long (0 : Int64)), .second, .val (.int (0 : Int32))] [(.int (1 : Int32)), (.int (0 : Int32))]))
  refine own_by (fun t kk_ => XS.icmpNo X2.here hx rfl (hb hby d4_20) rfl (tlt (by decide)).2.1 kk_) ?_
  show OwnG p e below s _ _ _ (T2.setTop (mkF m 23 #[.val (.ref a1), .val (.int hr.toInt32), .val (.long ((hr.toInt32.toInt64) * R)), .second, .val (.long (0 : Int64)), .second, .val (.int (0 : Int32))] []))
  refine own_by (fun t kk_ => XS.lload X2.here hx rfl (hb hby d4_23) rfl  kk_) ?_
  show OwnG p e below s _ _ _ (T2.setTop (mkF m 25 #[.val (.ref a1), .val (.int hr.toInt32), .val (.long ((hr.toInt32.toInt64) * R)), .second, .val (.long (0 : Int64)), .second, .val (.int (0 : Int32))] [(.long (0 : Int64))]))
  refine own_by (fun t kk_ => XS.lconst X2.here hx rfl (hb hby d4_25) kk_) ?_
  show OwnG p e below s _ _ _ (T2.setTop (mkF m 26 #[.val (.ref a1), .val (.int hr.toInt32), .val (.long ((hr.toInt32.toInt64) * R)), .second, .val (.long (0 : Int64)), .second, .val (.int (0 : Int32))] [(.long (0 : Int64)), (.long (0 : Int64))]))
  refine own_by (fun t kk_ => XS.aloadN X2.here hx rfl (hb hby d4_26) rfl rfl kk_) ?_
  show OwnG p e below s _ _ _ (T2.setTop (mkF m 27 #[.val (.ref a1), .val (.int hr.toInt32), .val (.long ((hr.toInt32.toInt64) * R)), .second, .val (.long (0 : Int64)), .second, .val (.int (0 : Int32))] [(.ref a1), (.long (0 : Int64)), (.long (0 : Int64))]))
  obtain ⟨T3, X3, e3, st3⟩ := getF X2 hx hZ hown (host := "") (Or.inl (hw _ (List.mem_of_getElem? (i := 15) rfl))) Via.refl e2 Ob.2.2.1 (g := (mkF m 27 #[.val (.ref a1), .val (.int hr.toInt32), .val (.long ((hr.toInt32.toInt64) * R)), .second, .val (.long (0 : Int64)), .second, .val (.int (0 : Int32))] [(.ref a1), (.long (0 : Int64)), (.long (0 : Int64))])) rfl rfl (hb hby d4_27)
  refine own_by (fun t kk_ => st3 _ kk_) ?_
  show OwnG p e below s _ _ _ (T3.setTop (mkF m 30 #[.val (.ref a1), .val (.int hr.toInt32), .val (.long ((hr.toInt32.toInt64) * R)), .second, .val (.long (0 : Int64)), .second, .val (.int (0 : Int32))] [(.ref ea), (.long (0 : Int64)), (.long (0 : Int64))]))
  refine own_by (fun t kk_ => XS.iload X3.here hx rfl (hb hby d4_30) rfl  kk_) ?_
  show OwnG p e below s _ _ _ (T3.setTop (mkF m 32 #[.val (.ref a1), .val (.int hr.toInt32), .val (.long ((hr.toInt32.toInt64) * R)), .second, .val (.long (0 : Int64)), .second, .val (.int (0 : Int32))] [(.int (0 : Int32)), (.ref ea), (.long (0 : Int64)), (.long (0 : Int64))]))
  refine own_by (fun t kk_ => own_ldJ X3 hx hZ e3 Ob.2.2.2.2.2.2.2.2 (j := (0 : Int32)) (i := 0) ⟨by decide, rfl, by decide⟩ (v := (.long (H.toInt32.toInt64 * R))) hfe (g := (mkF m 32 #[.val (.ref a1), .val (.int hr.toInt32), .val (.long ((hr.toInt32.toInt64) * R)), .second, .val (.long (0 : Int64)), .second, .val (.int (0 : Int32))] [(.int (0 : Int32)), (.ref ea), (.long (0 : Int64)), (.long (0 : Int64))])) rfl rfl (hb hby d4_32) _ kk_) ?_
  show OwnG p e below s _ _ _ (T3.setTop (mkF m 33 #[.val (.ref a1), .val (.int hr.toInt32), .val (.long ((hr.toInt32.toInt64) * R)), .second, .val (.long (0 : Int64)), .second, .val (.int (0 : Int32))] [(.long (H.toInt32.toInt64 * R)), (.long (0 : Int64)), (.long (0 : Int64))]))
  refine own_by (fun t kk_ => XS.lloadN X3.here hx rfl (hb hby d4_33) rfl  kk_) ?_
  show OwnG p e below s _ _ _ (T3.setTop (mkF m 34 #[.val (.ref a1), .val (.int hr.toInt32), .val (.long ((hr.toInt32.toInt64) * R)), .second, .val (.long (0 : Int64)), .second, .val (.int (0 : Int32))] [(.long ((hr.toInt32.toInt64) * R)), (.long (H.toInt32.toInt64 * R)), (.long (0 : Int64)), (.long (0 : Int64))]))
  obtain ⟨_, _, ⟨T4, L4, k4, n4⟩, -, X4, ⟨Lc4, hQ4, l4, y4, z4⟩, st4⟩ := Jvm.LawKit.callS X3 hx (y := (⟨"java/lang/Math", "min", "(JJ)J"⟩ : MethodName)) hown (mvT hZ (hw _ (List.mem_of_getElem? (i := 66) rfl))) (mvT hZ (hw _ (List.mem_of_getElem? (i := 67) rfl))) (mvT hZ (hw _ (List.mem_of_getElem? (i := 68) rfl))) (mvT hZ (hw _ (List.mem_of_getElem? (i := 69) rfl))) (by decide) (backOf (W := 4) (rm11 l Z a0 hw [] (H.toInt32.toInt64 * R) (hr.toInt32.toInt64 * R) (hr.toInt32.toInt64 * R) h0 n0 Z0 (own_min hB hhr hH)) hZ (hw _ (List.mem_of_getElem? (i := 69) rfl)) (hw _ (List.mem_of_getElem? (i := 68) rfl)) (by decide) (by decide)) (g := (mkF m 34 #[.val (.ref a1), .val (.int hr.toInt32), .val (.long ((hr.toInt32.toInt64) * R)), .second, .val (.long (0 : Int64)), .second, .val (.int (0 : Int32))] [(.long ((hr.toInt32.toInt64) * R)), (.long (H.toInt32.toInt64 * R)), (.long (0 : Int64)), (.long (0 : Int64))])) rfl (by rw [hml]; rfl) (argsL := [(.long (H.toInt32.toInt64 * R)), (.long ((hr.toInt32.toInt64) * R))]) (rest := [(.long (0 : Int64)), (.long (0 : Int64))]) (lenOf pd_1 rfl) rfl (by show 2 * 0 + _ ≤ _; exact Nat.le_of_eq rfl) (hb hby d4_34) (fun _ _ => ⟨rfl, e3, (by decide : 0 + 0 ≤ _), (by decide : 0 + 0 ≤ _)⟩)
  dsimp only [Pt.U, Pt.locs, Pt.cells, Pt.slots] at X4 l4 y4 z4 st4 hQ4
  subst l4 y4 z4
  refine own_by (fun t kk_ => st4 _ kk_) ?_
  obtain ⟨rfl, N4q, hh4⟩ := hQ4
  have N4 := Fr.app N0 N4q
  have eh4 : T4.heap = h0 := hh4.trans rfl
  have f5 := Ob.1
  rw [← hh4] at f5
  have f6 := Ob.2.1
  rw [← hh4] at f6
  have f7 := Ob.2.2.1
  rw [← hh4] at f7
  have f8 := Ob.2.2.2.1
  rw [← hh4] at f8
  have f9 := Ob.2.2.2.2.1
  rw [← hh4] at f9
  have f10 := Ob.2.2.2.2.2.1
  rw [← hh4] at f10
  have f11 := Ob.2.2.2.2.2.2.1
  rw [← hh4] at f11
  have f12 := Ob.2.2.2.2.2.2.2.1
  rw [← hh4] at f12
  have f13 := Ob.2.2.2.2.2.2.2.2
  rw [← hh4] at f13
  have sz4 : n0 ≤ T4.heap.size := by rw [hh4]; exact Z0
  show OwnG p e below s _ _ _ (T4.setTop (mkF m 37 #[.val (.ref a1), .val (.int hr.toInt32), .val (.long ((hr.toInt32.toInt64) * R)), .second, .val (.long (0 : Int64)), .second, .val (.int (0 : Int32))] [(.long (hr.toInt32.toInt64 * R)), (.long (0 : Int64)), (.long (0 : Int64))]))
  refine own_by (fun t kk_ => XS.aloadN X4.here hx rfl (hb hby d4_37) rfl rfl kk_) ?_
  show OwnG p e below s _ _ _ (T4.setTop (mkF m 38 #[.val (.ref a1), .val (.int hr.toInt32), .val (.long ((hr.toInt32.toInt64) * R)), .second, .val (.long (0 : Int64)), .second, .val (.int (0 : Int32))] [(.ref a1), (.long (hr.toInt32.toInt64 * R)), (.long (0 : Int64)), (.long (0 : Int64))]))
  obtain ⟨T14, X14, e14, st14⟩ := getF X4 hx hZ hown (host := "") (Or.inl (hw _ (List.mem_of_getElem? (i := 13) rfl))) Via.refl (rfl : T4.heap = T4.heap) f6 (g := (mkF m 38 #[.val (.ref a1), .val (.int hr.toInt32), .val (.long ((hr.toInt32.toInt64) * R)), .second, .val (.long (0 : Int64)), .second, .val (.int (0 : Int32))] [(.ref a1), (.long (hr.toInt32.toInt64 * R)), (.long (0 : Int64)), (.long (0 : Int64))])) rfl rfl (hb hby d4_38)
  refine own_by (fun t kk_ => st14 _ kk_) ?_
  show OwnG p e below s _ _ _ (T14.setTop (mkF m 41 #[.val (.ref a1), .val (.int hr.toInt32), .val (.long ((hr.toInt32.toInt64) * R)), .second, .val (.long (0 : Int64)), .second, .val (.int (0 : Int32))] [(.ref sa), (.long (hr.toInt32.toInt64 * R)), (.long (0 : Int64)), (.long (0 : Int64))]))
  refine own_by (fun t kk_ => XS.iload X14.here hx rfl (hb hby d4_41) rfl  kk_) ?_
  show OwnG p e below s _ _ _ (T14.setTop (mkF m 43 #[.val (.ref a1), .val (.int hr.toInt32), .val (.long ((hr.toInt32.toInt64) * R)), .second, .val (.long (0 : Int64)), .second, .val (.int (0 : Int32))] [(.int (0 : Int32)), (.ref sa), (.long (hr.toInt32.toInt64 * R)), (.long (0 : Int64)), (.long (0 : Int64))]))
  refine own_by (fun t kk_ => own_ldJ X14 hx hZ e14 f12 (j := (0 : Int32)) (i := 0) ⟨by decide, rfl, by decide⟩ (v := (.long (0 : Int64))) hfs (g := (mkF m 43 #[.val (.ref a1), .val (.int hr.toInt32), .val (.long ((hr.toInt32.toInt64) * R)), .second, .val (.long (0 : Int64)), .second, .val (.int (0 : Int32))] [(.int (0 : Int32)), (.ref sa), (.long (hr.toInt32.toInt64 * R)), (.long (0 : Int64)), (.long (0 : Int64))])) rfl rfl (hb hby d4_43) _ kk_) ?_
  show OwnG p e below s _ _ _ (T14.setTop (mkF m 44 #[.val (.ref a1), .val (.int hr.toInt32), .val (.long ((hr.toInt32.toInt64) * R)), .second, .val (.long (0 : Int64)), .second, .val (.int (0 : Int32))] [(.long (0 : Int64)), (.long (hr.toInt32.toInt64 * R)), (.long (0 : Int64)), (.long (0 : Int64))]))
  refine own_by (fun t kk_ => XS.lsub X14.here hx rfl (hb hby d4_44) rfl kk_) ?_
  show OwnG p e below s _ _ _ (T14.setTop (mkF m 45 #[.val (.ref a1), .val (.int hr.toInt32), .val (.long ((hr.toInt32.toInt64) * R)), .second, .val (.long (0 : Int64)), .second, .val (.int (0 : Int32))] [(.long ((hr.toInt32.toInt64 * R) - (0 : Int64))), (.long (0 : Int64)), (.long (0 : Int64))]))
  obtain ⟨_, _, ⟨T15, L15, k15, n15⟩, -, X15, ⟨Lc15, hQ15, l15, y15, z15⟩, st15⟩ := Jvm.LawKit.callS X14 hx (y := (⟨"java/lang/Math", "max", "(JJ)J"⟩ : MethodName)) hown (mvT hZ (hw _ (List.mem_of_getElem? (i := 70) rfl))) (mvT hZ (hw _ (List.mem_of_getElem? (i := 71) rfl))) (mvT hZ (hw _ (List.mem_of_getElem? (i := 68) rfl))) (mvT hZ (hw _ (List.mem_of_getElem? (i := 72) rfl))) (by decide) (backOf (W := 2) (rm12 l Z a0 hw [] (0 : Int64) ((hr.toInt32.toInt64 * R) - (0 : Int64)) (hr.toInt32.toInt64 * R) T4.heap n0 sz4 (own_maxz hB (by omega))) hZ (hw _ (List.mem_of_getElem? (i := 72) rfl)) (hw _ (List.mem_of_getElem? (i := 68) rfl)) (by decide) (by decide)) (g := (mkF m 45 #[.val (.ref a1), .val (.int hr.toInt32), .val (.long ((hr.toInt32.toInt64) * R)), .second, .val (.long (0 : Int64)), .second, .val (.int (0 : Int32))] [(.long ((hr.toInt32.toInt64 * R) - (0 : Int64))), (.long (0 : Int64)), (.long (0 : Int64))])) rfl (by rw [hml]; rfl) (argsL := [(.long (0 : Int64)), (.long ((hr.toInt32.toInt64 * R) - (0 : Int64)))]) (rest := [(.long (0 : Int64))]) (lenOf pd_1 rfl) rfl (by show 2 * 0 + _ ≤ _; exact Nat.le_of_eq rfl) (hb hby d4_45) (fun _ _ => ⟨rfl, e14, (by decide : 0 + 0 ≤ _), (by decide : 0 + 0 ≤ _)⟩)
  dsimp only [Pt.U, Pt.locs, Pt.cells, Pt.slots] at X15 l15 y15 z15 st15 hQ15
  subst l15 y15 z15
  refine own_by (fun t kk_ => st15 _ kk_) ?_
  obtain ⟨rfl, N15q, hh15⟩ := hQ15
  have N15 := Fr.app N4 N15q
  have eh15 : T15.heap = h0 := hh15.trans eh4
  have f16 := f5
  rw [← hh15] at f16
  have f17 := f6
  rw [← hh15] at f17
  have f18 := f7
  rw [← hh15] at f18
  have f19 := f8
  rw [← hh15] at f19
  have f20 := f9
  rw [← hh15] at f20
  have f21 := f10
  rw [← hh15] at f21
  have f22 := f11
  rw [← hh15] at f22
  have f23 := f12
  rw [← hh15] at f23
  have f24 := f13
  rw [← hh15] at f24
  have sz15 : n0 ≤ T15.heap.size := by rw [hh15]; exact sz4
  show OwnG p e below s _ _ _ (T15.setTop (mkF m 48 #[.val (.ref a1), .val (.int hr.toInt32), .val (.long ((hr.toInt32.toInt64) * R)), .second, .val (.long (0 : Int64)), .second, .val (.int (0 : Int32))] [(.long (hr.toInt32.toInt64 * R)), (.long (0 : Int64))]))
  refine own_by (fun t kk_ => XS.ladd X15.here hx rfl (hb hby d4_48) rfl kk_) ?_
  show OwnG p e below s _ _ _ (T15.setTop (mkF m 49 #[.val (.ref a1), .val (.int hr.toInt32), .val (.long ((hr.toInt32.toInt64) * R)), .second, .val (.long (0 : Int64)), .second, .val (.int (0 : Int32))] [(.long ((0 : Int64) + (hr.toInt32.toInt64 * R)))]))
  rw [show (0 : Int64) + (hr.toInt32.toInt64 * R) = (hr.toInt32.toInt64 * R) from Int64.zero_add _]
  show OwnG p e below s _ _ _ (T15.setTop (mkF m 49 #[.val (.ref a1), .val (.int hr.toInt32), .val (.long ((hr.toInt32.toInt64) * R)), .second, .val (.long (0 : Int64)), .second, .val (.int (0 : Int32))] [(.long (hr.toInt32.toInt64 * R))]))
  refine own_by (fun t kk_ => XS.lstore X15.here hx rfl (hb hby d4_49) rfl (l' := #[.val (.ref a1), .val (.int hr.toInt32), .val (.long ((hr.toInt32.toInt64) * R)), .second, .val (.long (hr.toInt32.toInt64 * R)), .second, .val (.int (0 : Int32))]) rfl kk_) ?_
  show OwnG p e below s _ _ _ (T15.setTop (mkF m 51 #[.val (.ref a1), .val (.int hr.toInt32), .val (.long ((hr.toInt32.toInt64) * R)), .second, .val (.long (hr.toInt32.toInt64 * R)), .second, .val (.int (0 : Int32))] []))
  refine own_by (fun t kk_ => XS.iinc X15.here hx rfl (hb hby d4_51) rfl (l' := #[.val (.ref a1), .val (.int hr.toInt32), .val (.long ((hr.toInt32.toInt64) * R)), .second, .val (.long (hr.toInt32.toInt64 * R)), .second, .val (.int ((0 : Int32) + (1 : Int32)))]) rfl kk_) ?_
  show OwnG p e below s _ _ _ (T15.setTop (mkF m 54 #[.val (.ref a1), .val (.int hr.toInt32), .val (.long ((hr.toInt32.toInt64) * R)), .second, .val (.long (hr.toInt32.toInt64 * R)), .second, .val (.int ((0 : Int32) + (1 : Int32)))] []))
  refine own_by (fun t kk_ => XS.goto X15.here hx rfl (pc0 := 54) (pc' := 14) rfl (hb hby d4_54) (by decide) (by decide) kk_) ?_
  show OwnG p e below s _ _ _ (T15.setTop (mkF m 14 #[.val (.ref a1), .val (.int hr.toInt32), .val (.long ((hr.toInt32.toInt64) * R)), .second, .val (.long (hr.toInt32.toInt64 * R)), .second, .val (.int ((0 : Int32) + (1 : Int32)))] []))
  refine own_by (fun t kk_ => XS.iload X15.here hx rfl (hb hby d4_14) rfl  kk_) ?_
  show OwnG p e below s _ _ _ (T15.setTop (mkF m 16 #[.val (.ref a1), .val (.int hr.toInt32), .val (.long ((hr.toInt32.toInt64) * R)), .second, .val (.long (hr.toInt32.toInt64 * R)), .second, .val (.int ((0 : Int32) + (1 : Int32)))] [(.int ((0 : Int32) + (1 : Int32)))]))
  refine own_by (fun t kk_ => XS.aloadN X15.here hx rfl (hb hby d4_16) rfl rfl kk_) ?_
  show OwnG p e below s _ _ _ (T15.setTop (mkF m 17 #[.val (.ref a1), .val (.int hr.toInt32), .val (.long ((hr.toInt32.toInt64) * R)), .second, .val (.long (hr.toInt32.toInt64 * R)), .second, .val (.int ((0 : Int32) + (1 : Int32)))] [(.ref a1), (.int ((0 : Int32) + (1 : Int32)))]))
  obtain ⟨T25, X25, e25, st25⟩ := getF X15 hx hZ hown (host := "") (Or.inl (hw _ (List.mem_of_getElem? (i := 33) rfl))) Via.refl (rfl : T15.heap = T15.heap) f21 (g := (mkF m 17 #[.val (.ref a1), .val (.int hr.toInt32), .val (.long ((hr.toInt32.toInt64) * R)), .second, .val (.long (hr.toInt32.toInt64 * R)), .second, .val (.int ((0 : Int32) + (1 : Int32)))] [(.ref a1), (.int ((0 : Int32) + (1 : Int32)))])) rfl rfl (hb hby d4_17)
  refine own_by (fun t kk_ => st25 _ kk_) ?_
  show OwnG p e below s _ _ _ (T25.setTop (mkF m 20 #[.val (.ref a1), .val (.int hr.toInt32), .val (.long ((hr.toInt32.toInt64) * R)), .second, .val (.long (hr.toInt32.toInt64 * R)), .second, .val (.int ((0 : Int32) + (1 : Int32)))] [(.int (1 : Int32)), (.int ((0 : Int32) + (1 : Int32)))]))
  refine own_by (fun t kk_ => XS.icmpYes X25.here hx rfl (pc0 := 20) (pc' := 57) rfl (hb hby d4_20) rfl (flt (by decide)).2.1 (by decide) (by decide) kk_) ?_
  show OwnG p e below s _ _ _ (T25.setTop (mkF m 57 #[.val (.ref a1), .val (.int hr.toInt32), .val (.long ((hr.toInt32.toInt64) * R)), .second, .val (.long (hr.toInt32.toInt64 * R)), .second, .val (.int ((0 : Int32) + (1 : Int32)))] []))
  refine own_by (fun t kk_ => XS.lload X25.here hx rfl (hb hby d4_57) rfl  kk_) ?_
  show OwnG p e below s _ _ _ (T25.setTop (mkF m 59 #[.val (.ref a1), .val (.int hr.toInt32), .val (.long ((hr.toInt32.toInt64) * R)), .second, .val (.long (hr.toInt32.toInt64 * R)), .second, .val (.int ((0 : Int32) + (1 : Int32)))] [(.long (hr.toInt32.toInt64 * R))]))
  exact own_outL X25 hx hret hlk (hb hby d4_59) (⟨rfl, N15, (e25).trans eh15⟩) (by decide) (by decide)
theorem d1_0 : decode prog_8_method_1_code 0 = .ok (.aload_n 0, 1) := by decide +kernel
theorem d1_1 : decode prog_8_method_1_code 1 = .ok (.invokespecial 1, 3) := by decide +kernel
theorem d1_4 : decode prog_8_method_1_code 4 = .ok (.aload_n 0, 1) := by decide +kernel
theorem d1_5 : decode prog_8_method_1_code 5 = .ok (.iconst 2, 1) := by decide +kernel
theorem d1_6 : decode prog_8_method_1_code 6 = .ok (.newarray .long, 2) := by decide +kernel
theorem d1_8 : decode prog_8_method_1_code 8 = .ok (.putfield 7, 3) := by decide +kernel
theorem d1_11 : decode prog_8_method_1_code 11 = .ok (.aload_n 0, 1) := by decide +kernel
theorem d1_12 : decode prog_8_method_1_code 12 = .ok (.iconst 2, 1) := by decide +kernel
theorem d1_13 : decode prog_8_method_1_code 13 = .ok (.newarray .long, 2) := by decide +kernel
theorem d1_15 : decode prog_8_method_1_code 15 = .ok (.putfield 13, 3) := by decide +kernel
theorem d1_18 : decode prog_8_method_1_code 18 = .ok (.aload_n 0, 1) := by decide +kernel
theorem d1_19 : decode prog_8_method_1_code 19 = .ok (.lload_n 1, 1) := by decide +kernel
theorem d1_20 : decode prog_8_method_1_code 20 = .ok (.putfield 16, 3) := by decide +kernel
theorem d1_23 : decode prog_8_method_1_code 23 = .ok (.aload_n 0, 1) := by decide +kernel
theorem d1_24 : decode prog_8_method_1_code 24 = .ok (.iload_n 3, 1) := by decide +kernel
theorem d1_25 : decode prog_8_method_1_code 25 = .ok (.putfield 20, 3) := by decide +kernel
theorem d1_28 : decode prog_8_method_1_code 28 = .ok (.aload_n 0, 1) := by decide +kernel
theorem d1_29 : decode prog_8_method_1_code 29 = .ok (.iload 4, 2) := by decide +kernel
theorem d1_31 : decode prog_8_method_1_code 31 = .ok (.putfield 24, 3) := by decide +kernel
theorem d1_34 : decode prog_8_method_1_code 34 = .ok (.return_, 1) := by decide +kernel
theorem pd_3 : parseMethodDescriptor "()V" = some ⟨[], none⟩ := by decide +kernel
theorem ef_1 (m : MethodId) (x0 : Addr) (x1 : Int64) (x2 : Int32) (x3 : Int32) : entryFrame m #[(.ref x0), (.long x1), (.int x2), (.int x3)] 5 = mkF m 0 #[.val (.ref x0), .val (.long x1), .second, .val (.int x2), .val (.int x3)] [] := by first | (simp [entryFrame, mkF, argsToLocals, Value.category]; done) | rfl
def Q1 (Z : State) (a1 : Addr) (R : Int64) (H : Nat) (h0 : Heap) (n0 : Nat) (v : Option Value) (h : Heap) (L : List Loc) : Prop := v = none ∧ Fr n0 L ∧ Keep h0 h [a1] ∧ ∃ sa ea, n0 ≤ sa ∧ n0 ≤ ea ∧ a1 ≠ sa ∧ a1 ≠ ea ∧ sa ≠ ea ∧ own_X Z h a1 sa ea R H.toInt32 0 0 (fun _ => .long (0 : Int64)) (fun _ => .long (0 : Int64))
set_option maxRecDepth 65536 in
set_option maxHeartbeats 40000000 in
theorem rm1 (l : Launch) (Z : State) (a0 : Array Value) (hw : ∀ d ∈ tables_1, d.before a0 Z = true) (ws : List Jvm.Cond) (a1 : Addr) (R : Int64) (H : Nat) (h0 : Heap) (n0 : Nat) (Z0 : n0 ≤ h0.size) (EX : Exa Z h0 a1 "com/example/gasholder/gasholder/Execution") (Fstarts : Fld Z h0 a1 "com/example/gasholder/gasholder/Execution" "starts" "[J" .null) (Fends : Fld Z h0 a1 "com/example/gasholder/gasholder/Execution" "ends" "[J" .null) (Frate : Fld Z h0 a1 "com/example/gasholder/gasholder/Execution" "rate" "J" (.long 0)) (Fhours : Fld Z h0 a1 "com/example/gasholder/gasholder/Execution" "hours" "I" (.int 0)) (Fruns : Fld Z h0 a1 "com/example/gasholder/gasholder/Execution" "runs" "I" (.int 0)) (Fschedule : Fld Z h0 a1 "com/example/gasholder/gasholder/Execution" "schedule" "J" (.long 0)) (FdayHours : Fld Z h0 a1 "com/example/gasholder/gasholder/Execution" "dayHours" "I" (.int 0)) (g1 : n0 ≤ a1) :
    MetFree l (⟨"com/example/gasholder/gasholder/Execution", "<init>", "(JII)V"⟩ : MethodName) (head1 (Jvm.Cond.code (⟨"com/example/gasholder/gasholder/Execution", "<init>", "(JII)V"⟩ : MethodName) prog_8_method_1_code 5 none :: ws) ({ frames := 1, cells := 2, slots := 4, locals := 12 } : Room)) (fun aa_ U => aa_ = #[(.ref a1), (.long R), (.int H.toInt32), (.int (25 : Int32))] ∧ Z.Warmed39 U.vm ∧ U.heap = h0) (fun _ _ _ _ _ => True) (fun _ U o U' => ∃ v L, o = .returned v ∧ Q1 Z a1 R H h0 n0 v U'.heap L ∧ FrameEnd U o U' L ({ frames := 1, cells := 2, slots := 4, locals := 12 } : Room).cells ({ frames := 1, cells := 2, slots := 4, locals := 12 } : Room).slots) := by
  refine own_met (Q := fun v h L => Q1 Z a1 R H h0 n0 v h L) (plainFor_of_name pn_2) ?_
  intro p e s m below meth c s₁ hx hby hml hret hlk hown hnm hZ X0 e0
  have N0 := Fr.nil n0
  rw [ef_1 m a1 R H.toInt32 (25 : Int32)]
  show OwnG p e below s _ _ _ (s₁.setTop (mkF m 0 #[.val (.ref a1), .val (.long R), .second, .val (.int H.toInt32), .val (.int (25 : Int32))] []))
  refine own_by (fun t kk_ => XS.aloadN X0.here hx rfl (hb hby d1_0) rfl rfl kk_) ?_
  show OwnG p e below s _ _ _ (s₁.setTop (mkF m 1 #[.val (.ref a1), .val (.long R), .second, .val (.int H.toInt32), .val (.int (25 : Int32))] [(.ref a1)]))
  obtain ⟨T1, X1, e1, st1⟩ := initO X0 hx hZ hown (hw _ (List.mem_of_getElem? (i := 9) rfl)) (hw _ (List.mem_of_getElem? (i := 10) rfl)) (hw _ (List.mem_of_getElem? (i := 11) rfl)) e0 (g := (mkF m 1 #[.val (.ref a1), .val (.long R), .second, .val (.int H.toInt32), .val (.int (25 : Int32))] [(.ref a1)])) rfl (by rw [hml]; rfl) rfl (hb hby d1_1) (by decide) (W := 0) (by show 2 * 0 + _ ≤ _; exact Nat.le_of_eq rfl) (by decide)
  refine own_by (fun t kk_ => st1 _ kk_) ?_
  show OwnG p e below s _ _ _ (T1.setTop (mkF m 4 #[.val (.ref a1), .val (.long R), .second, .val (.int H.toInt32), .val (.int (25 : Int32))] []))
  refine own_by (fun t kk_ => XS.aloadN X1.here hx rfl (hb hby d1_4) rfl rfl kk_) ?_
  show OwnG p e below s _ _ _ (T1.setTop (mkF m 5 #[.val (.ref a1), .val (.long R), .second, .val (.int H.toInt32), .val (.int (25 : Int32))] [(.ref a1)]))
  refine own_by (fun t kk_ => XS.iconst X1.here hx rfl (hb hby d1_5) kk_) ?_
  show OwnG p e below s _ _ _ (T1.setTop (mkF m 6 #[.val (.ref a1), .val (.long R), .second, .val (.int H.toInt32), .val (.int (25 : Int32))] [(.int (2 : Int32)), (.ref a1)]))
  obtain ⟨T2, h2, k2, X2, e2, E2, A2, st2⟩ := newP X1 hx hZ (hw _ (List.mem_of_getElem? (i := 12) rfl)) e1 (g := (mkF m 6 #[.val (.ref a1), .val (.long R), .second, .val (.int H.toInt32), .val (.int (25 : Int32))] [(.int (2 : Int32)), (.ref a1)])) rfl (hb hby d1_6) rfl (by decide) (cap := 2) (by decide) (by decide) (by decide) (by decide)
  obtain ⟨sa, g2⟩ : ∃ z, z = h0.size := ⟨_, rfl⟩
  rw [← g2] at A2 st2
  have ne3 : a1 ≠ sa := fun q => absurd EX.lt (by rw [q, g2]; exact Nat.lt_irrefl _)
  have gg_sa : n0 ≤ sa := by rw [g2]; exact Z0
  have gh_sa : h0.size ≤ sa := by rw [g2]; exact (Keep.refl h0 [a1]).1
  have sz2 : n0 ≤ h2.size := Nat.le_trans Z0 E2.1
  refine own_by (fun t kk_ => st2 _ kk_) ?_
  have f4 := Exa.ext E2 EX
  have f5 := Keep.ext (Keep.refl h0 [a1]) E2
  have f6 := Fld.ext E2 Fstarts
  have f7 := Fld.ext E2 Fends
  have f8 := Fld.ext E2 Frate
  have f9 := Fld.ext E2 Fhours
  have f10 := Fld.ext E2 Fruns
  have f11 := Fld.ext E2 Fschedule
  have f12 := Fld.ext E2 FdayHours
  have f13 : OwnA Z h2 sa .long 2 (fun _ => (defaultValue .long)) := OwnA.new A2 (n := 2) (by decide) rfl
  show OwnG p e below s _ _ _ (T2.setTop (mkF m 8 #[.val (.ref a1), .val (.long R), .second, .val (.int H.toInt32), .val (.int (25 : Int32))] [(.ref sa), (.ref a1)]))
  obtain ⟨T14, h14, X14, e14, W14, st14⟩ := putF X2 hx hZ hown (host := "") (Or.inl (hw _ (List.mem_of_getElem? (i := 13) rfl))) Via.refl e2 f6 f4 (Or.inl (hw _ (List.mem_of_getElem? (i := 14) rfl))) (hw _ (List.mem_of_getElem? (i := 4) rfl)) (ty := (.array .long)) (by decide) rfl rfl (g := (mkF m 8 #[.val (.ref a1), .val (.long R), .second, .val (.int H.toInt32), .val (.int (25 : Int32))] [(.ref sa), (.ref a1)])) rfl rfl (hb hby d1_8)
  refine own_by (fun t kk_ => st14 _ kk_) ?_
  have f15 := Exa.wr W14 f4
  have f16 := Keep.wr f5 W14 (Or.inl (by simp))
  have f18 := Fld.other W14 f7 (Or.inr (slot_ne (Or.inl (hw _ (List.mem_of_getElem? (i := 16) rfl))) (Or.inl (hw _ (List.mem_of_getElem? (i := 14) rfl))) (by decide) (t := (.array .long)) (t' := (.array .long)) (by decide) (by decide)))
  have f19 := Fld.other W14 f8 (Or.inr (slot_ne (Or.inr (hw _ (List.mem_of_getElem? (i := 18) rfl))) (Or.inl (hw _ (List.mem_of_getElem? (i := 14) rfl))) (by decide) (t := .long) (t' := (.array .long)) (by decide) (by decide)))
  have f20 := Fld.other W14 f9 (Or.inr (slot_ne (Or.inr (hw _ (List.mem_of_getElem? (i := 20) rfl))) (Or.inl (hw _ (List.mem_of_getElem? (i := 14) rfl))) (by decide) (t := .int) (t' := (.array .long)) (by decide) (by decide)))
  have f21 := Fld.other W14 f10 (Or.inr (slot_ne (Or.inl (hw _ (List.mem_of_getElem? (i := 34) rfl))) (Or.inl (hw _ (List.mem_of_getElem? (i := 14) rfl))) (by decide) (t := .int) (t' := (.array .long)) (by decide) (by decide)))
  have f22 := Fld.other W14 f11 (Or.inr (slot_ne (Or.inl (hw _ (List.mem_of_getElem? (i := 54) rfl))) (Or.inl (hw _ (List.mem_of_getElem? (i := 14) rfl))) (by decide) (t := .long) (t' := (.array .long)) (by decide) (by decide)))
  have f23 := Fld.other W14 f12 (Or.inr (slot_ne (Or.inr (hw _ (List.mem_of_getElem? (i := 22) rfl))) (Or.inl (hw _ (List.mem_of_getElem? (i := 14) rfl))) (by decide) (t := .int) (t' := (.array .long)) (by decide) (by decide)))
  have f24 := OwnA.other W14 f13 (Ne.symm ne3)
  have f25 := Fld.same W14 f6
  have N14 := Fr.snoc X14 N0 g1
  have sz14 : n0 ≤ h14.size := by rw [W14.size]; exact sz2
  show OwnG p e below s _ _ _ (T14.setTop (mkF m 11 #[.val (.ref a1), .val (.long R), .second, .val (.int H.toInt32), .val (.int (25 : Int32))] []))
  refine own_by (fun t kk_ => XS.aloadN X14.here hx rfl (hb hby d1_11) rfl rfl kk_) ?_
  show OwnG p e below s _ _ _ (T14.setTop (mkF m 12 #[.val (.ref a1), .val (.long R), .second, .val (.int H.toInt32), .val (.int (25 : Int32))] [(.ref a1)]))
  refine own_by (fun t kk_ => XS.iconst X14.here hx rfl (hb hby d1_12) kk_) ?_
  show OwnG p e below s _ _ _ (T14.setTop (mkF m 13 #[.val (.ref a1), .val (.long R), .second, .val (.int H.toInt32), .val (.int (25 : Int32))] [(.int (2 : Int32)), (.ref a1)]))
  obtain ⟨T26, h26, k26, X26, e26, E26, A26, st26⟩ := newP X14 hx hZ (hw _ (List.mem_of_getElem? (i := 12) rfl)) e14 (g := (mkF m 13 #[.val (.ref a1), .val (.long R), .second, .val (.int H.toInt32), .val (.int (25 : Int32))] [(.int (2 : Int32)), (.ref a1)])) rfl (hb hby d1_13) rfl (by decide) (cap := 2) (by decide) (by decide) (by decide) (by decide)
  obtain ⟨ea, g26⟩ : ∃ z, z = h14.size := ⟨_, rfl⟩
  rw [← g26] at A26 st26
  have ne27 : a1 ≠ ea := fun q => absurd f15.lt (by rw [q, g26]; exact Nat.lt_irrefl _)
  have ne28 : sa ≠ ea := fun q => absurd f24.lt (by rw [q, g26]; exact Nat.lt_irrefl _)
  have gg_ea : n0 ≤ ea := by rw [g26]; exact sz14
  have gh_ea : h0.size ≤ ea := by rw [g26]; exact f16.1
  have sz26 : n0 ≤ h26.size := Nat.le_trans sz14 E26.1
  refine own_by (fun t kk_ => st26 _ kk_) ?_
  have f29 := Exa.ext E26 f15
  have f30 := Keep.ext f16 E26
  have f31 := Fld.ext E26 f25
  have f32 := Fld.ext E26 f18
  have f33 := Fld.ext E26 f19
  have f34 := Fld.ext E26 f20
  have f35 := Fld.ext E26 f21
  have f36 := Fld.ext E26 f22
  have f37 := Fld.ext E26 f23
  have f38 := OwnA.ext E26 f24
  have f39 : OwnA Z h26 ea .long 2 (fun _ => (defaultValue .long)) := OwnA.new A26 (n := 2) (by decide) rfl
  show OwnG p e below s _ _ _ (T26.setTop (mkF m 15 #[.val (.ref a1), .val (.long R), .second, .val (.int H.toInt32), .val (.int (25 : Int32))] [(.ref ea), (.ref a1)]))
  obtain ⟨T40, h40, X40, e40, W40, st40⟩ := putF X26 hx hZ hown (host := "") (Or.inl (hw _ (List.mem_of_getElem? (i := 15) rfl))) Via.refl e26 f32 f29 (Or.inl (hw _ (List.mem_of_getElem? (i := 16) rfl))) (hw _ (List.mem_of_getElem? (i := 4) rfl)) (ty := (.array .long)) (by decide) rfl rfl (g := (mkF m 15 #[.val (.ref a1), .val (.long R), .second, .val (.int H.toInt32), .val (.int (25 : Int32))] [(.ref ea), (.ref a1)])) rfl rfl (hb hby d1_15)
  refine own_by (fun t kk_ => st40 _ kk_) ?_
  have f41 := Exa.wr W40 f29
  have f42 := Keep.wr f30 W40 (Or.inl (by simp))
  have f43 := Fld.other W40 f31 (Or.inr (slot_ne (Or.inl (hw _ (List.mem_of_getElem? (i := 14) rfl))) (Or.inl (hw _ (List.mem_of_getElem? (i := 16) rfl))) (by decide) (t := (.array .long)) (t' := (.array .long)) (by decide) (by decide)))
  have f45 := Fld.other W40 f33 (Or.inr (slot_ne (Or.inr (hw _ (List.mem_of_getElem? (i := 18) rfl))) (Or.inl (hw _ (List.mem_of_getElem? (i := 16) rfl))) (by decide) (t := .long) (t' := (.array .long)) (by decide) (by decide)))
  have f46 := Fld.other W40 f34 (Or.inr (slot_ne (Or.inr (hw _ (List.mem_of_getElem? (i := 20) rfl))) (Or.inl (hw _ (List.mem_of_getElem? (i := 16) rfl))) (by decide) (t := .int) (t' := (.array .long)) (by decide) (by decide)))
  have f47 := Fld.other W40 f35 (Or.inr (slot_ne (Or.inl (hw _ (List.mem_of_getElem? (i := 34) rfl))) (Or.inl (hw _ (List.mem_of_getElem? (i := 16) rfl))) (by decide) (t := .int) (t' := (.array .long)) (by decide) (by decide)))
  have f48 := Fld.other W40 f36 (Or.inr (slot_ne (Or.inl (hw _ (List.mem_of_getElem? (i := 54) rfl))) (Or.inl (hw _ (List.mem_of_getElem? (i := 16) rfl))) (by decide) (t := .long) (t' := (.array .long)) (by decide) (by decide)))
  have f49 := Fld.other W40 f37 (Or.inr (slot_ne (Or.inr (hw _ (List.mem_of_getElem? (i := 22) rfl))) (Or.inl (hw _ (List.mem_of_getElem? (i := 16) rfl))) (by decide) (t := .int) (t' := (.array .long)) (by decide) (by decide)))
  have f50 := OwnA.other W40 f38 (Ne.symm ne3)
  have f51 := OwnA.other W40 f39 (Ne.symm ne27)
  have f52 := Fld.same W40 f32
  have N40 := Fr.snoc X40 N14 g1
  have sz40 : n0 ≤ h40.size := by rw [W40.size]; exact sz26
  show OwnG p e below s _ _ _ (T40.setTop (mkF m 18 #[.val (.ref a1), .val (.long R), .second, .val (.int H.toInt32), .val (.int (25 : Int32))] []))
  refine own_by (fun t kk_ => XS.aloadN X40.here hx rfl (hb hby d1_18) rfl rfl kk_) ?_
  show OwnG p e below s _ _ _ (T40.setTop (mkF m 19 #[.val (.ref a1), .val (.long R), .second, .val (.int H.toInt32), .val (.int (25 : Int32))] [(.ref a1)]))
  refine own_by (fun t kk_ => XS.lloadN X40.here hx rfl (hb hby d1_19) rfl  kk_) ?_
  show OwnG p e below s _ _ _ (T40.setTop (mkF m 20 #[.val (.ref a1), .val (.long R), .second, .val (.int H.toInt32), .val (.int (25 : Int32))] [(.long R), (.ref a1)]))
  obtain ⟨T53, h53, X53, e53, W53, st53⟩ := putF X40 hx hZ hown (host := "") (Or.inl (hw _ (List.mem_of_getElem? (i := 17) rfl))) Via.refl e40 f45 f41 (Or.inr ⟨(hw _ (List.mem_of_getElem? (i := 18) rfl)), rfl, hnm⟩) (hw _ (List.mem_of_getElem? (i := 4) rfl)) (ty := .long) (by decide) rfl rfl (g := (mkF m 20 #[.val (.ref a1), .val (.long R), .second, .val (.int H.toInt32), .val (.int (25 : Int32))] [(.long R), (.ref a1)])) rfl rfl (hb hby d1_20)
  refine own_by (fun t kk_ => st53 _ kk_) ?_
  have f54 := Exa.wr W53 f41
  have f55 := Keep.wr f42 W53 (Or.inl (by simp))
  have f56 := Fld.other W53 f43 (Or.inr (slot_ne (Or.inl (hw _ (List.mem_of_getElem? (i := 14) rfl))) (Or.inr (hw _ (List.mem_of_getElem? (i := 18) rfl))) (by decide) (t := (.array .long)) (t' := .long) (by decide) (by decide)))
  have f57 := Fld.other W53 f52 (Or.inr (slot_ne (Or.inl (hw _ (List.mem_of_getElem? (i := 16) rfl))) (Or.inr (hw _ (List.mem_of_getElem? (i := 18) rfl))) (by decide) (t := (.array .long)) (t' := .long) (by decide) (by decide)))
  have f59 := Fld.other W53 f46 (Or.inr (slot_ne (Or.inr (hw _ (List.mem_of_getElem? (i := 20) rfl))) (Or.inr (hw _ (List.mem_of_getElem? (i := 18) rfl))) (by decide) (t := .int) (t' := .long) (by decide) (by decide)))
  have f60 := Fld.other W53 f47 (Or.inr (slot_ne (Or.inl (hw _ (List.mem_of_getElem? (i := 34) rfl))) (Or.inr (hw _ (List.mem_of_getElem? (i := 18) rfl))) (by decide) (t := .int) (t' := .long) (by decide) (by decide)))
  have f61 := Fld.other W53 f48 (Or.inr (slot_ne (Or.inl (hw _ (List.mem_of_getElem? (i := 54) rfl))) (Or.inr (hw _ (List.mem_of_getElem? (i := 18) rfl))) (by decide) (t := .long) (t' := .long) (by decide) (by decide)))
  have f62 := Fld.other W53 f49 (Or.inr (slot_ne (Or.inr (hw _ (List.mem_of_getElem? (i := 22) rfl))) (Or.inr (hw _ (List.mem_of_getElem? (i := 18) rfl))) (by decide) (t := .int) (t' := .long) (by decide) (by decide)))
  have f63 := OwnA.other W53 f50 (Ne.symm ne3)
  have f64 := OwnA.other W53 f51 (Ne.symm ne27)
  have f65 := Fld.same W53 f45
  have N53 := Fr.snoc X53 N40 g1
  have sz53 : n0 ≤ h53.size := by rw [W53.size]; exact sz40
  show OwnG p e below s _ _ _ (T53.setTop (mkF m 23 #[.val (.ref a1), .val (.long R), .second, .val (.int H.toInt32), .val (.int (25 : Int32))] []))
  refine own_by (fun t kk_ => XS.aloadN X53.here hx rfl (hb hby d1_23) rfl rfl kk_) ?_
  show OwnG p e below s _ _ _ (T53.setTop (mkF m 24 #[.val (.ref a1), .val (.long R), .second, .val (.int H.toInt32), .val (.int (25 : Int32))] [(.ref a1)]))
  refine own_by (fun t kk_ => XS.iloadN X53.here hx rfl (hb hby d1_24) rfl  kk_) ?_
  show OwnG p e below s _ _ _ (T53.setTop (mkF m 25 #[.val (.ref a1), .val (.long R), .second, .val (.int H.toInt32), .val (.int (25 : Int32))] [(.int H.toInt32), (.ref a1)]))
  obtain ⟨T66, h66, X66, e66, W66, st66⟩ := putF X53 hx hZ hown (host := "") (Or.inl (hw _ (List.mem_of_getElem? (i := 19) rfl))) Via.refl e53 f59 f54 (Or.inr ⟨(hw _ (List.mem_of_getElem? (i := 20) rfl)), rfl, hnm⟩) (hw _ (List.mem_of_getElem? (i := 4) rfl)) (ty := .int) (by decide) rfl rfl (g := (mkF m 25 #[.val (.ref a1), .val (.long R), .second, .val (.int H.toInt32), .val (.int (25 : Int32))] [(.int H.toInt32), (.ref a1)])) rfl rfl (hb hby d1_25)
  refine own_by (fun t kk_ => st66 _ kk_) ?_
  have f67 := Exa.wr W66 f54
  have f68 := Keep.wr f55 W66 (Or.inl (by simp))
  have f69 := Fld.other W66 f56 (Or.inr (slot_ne (Or.inl (hw _ (List.mem_of_getElem? (i := 14) rfl))) (Or.inr (hw _ (List.mem_of_getElem? (i := 20) rfl))) (by decide) (t := (.array .long)) (t' := .int) (by decide) (by decide)))
  have f70 := Fld.other W66 f57 (Or.inr (slot_ne (Or.inl (hw _ (List.mem_of_getElem? (i := 16) rfl))) (Or.inr (hw _ (List.mem_of_getElem? (i := 20) rfl))) (by decide) (t := (.array .long)) (t' := .int) (by decide) (by decide)))
  have f71 := Fld.other W66 f65 (Or.inr (slot_ne (Or.inr (hw _ (List.mem_of_getElem? (i := 18) rfl))) (Or.inr (hw _ (List.mem_of_getElem? (i := 20) rfl))) (by decide) (t := .long) (t' := .int) (by decide) (by decide)))
  have f73 := Fld.other W66 f60 (Or.inr (slot_ne (Or.inl (hw _ (List.mem_of_getElem? (i := 34) rfl))) (Or.inr (hw _ (List.mem_of_getElem? (i := 20) rfl))) (by decide) (t := .int) (t' := .int) (by decide) (by decide)))
  have f74 := Fld.other W66 f61 (Or.inr (slot_ne (Or.inl (hw _ (List.mem_of_getElem? (i := 54) rfl))) (Or.inr (hw _ (List.mem_of_getElem? (i := 20) rfl))) (by decide) (t := .long) (t' := .int) (by decide) (by decide)))
  have f75 := Fld.other W66 f62 (Or.inr (slot_ne (Or.inr (hw _ (List.mem_of_getElem? (i := 22) rfl))) (Or.inr (hw _ (List.mem_of_getElem? (i := 20) rfl))) (by decide) (t := .int) (t' := .int) (by decide) (by decide)))
  have f76 := OwnA.other W66 f63 (Ne.symm ne3)
  have f77 := OwnA.other W66 f64 (Ne.symm ne27)
  have f78 := Fld.same W66 f59
  have N66 := Fr.snoc X66 N53 g1
  have sz66 : n0 ≤ h66.size := by rw [W66.size]; exact sz53
  show OwnG p e below s _ _ _ (T66.setTop (mkF m 28 #[.val (.ref a1), .val (.long R), .second, .val (.int H.toInt32), .val (.int (25 : Int32))] []))
  refine own_by (fun t kk_ => XS.aloadN X66.here hx rfl (hb hby d1_28) rfl rfl kk_) ?_
  show OwnG p e below s _ _ _ (T66.setTop (mkF m 29 #[.val (.ref a1), .val (.long R), .second, .val (.int H.toInt32), .val (.int (25 : Int32))] [(.ref a1)]))
  refine own_by (fun t kk_ => XS.iload X66.here hx rfl (hb hby d1_29) rfl  kk_) ?_
  show OwnG p e below s _ _ _ (T66.setTop (mkF m 31 #[.val (.ref a1), .val (.long R), .second, .val (.int H.toInt32), .val (.int (25 : Int32))] [(.int (25 : Int32)), (.ref a1)]))
  obtain ⟨T79, h79, X79, e79, W79, st79⟩ := putF X66 hx hZ hown (host := "") (Or.inl (hw _ (List.mem_of_getElem? (i := 21) rfl))) Via.refl e66 f75 f67 (Or.inr ⟨(hw _ (List.mem_of_getElem? (i := 22) rfl)), rfl, hnm⟩) (hw _ (List.mem_of_getElem? (i := 4) rfl)) (ty := .int) (by decide) rfl rfl (g := (mkF m 31 #[.val (.ref a1), .val (.long R), .second, .val (.int H.toInt32), .val (.int (25 : Int32))] [(.int (25 : Int32)), (.ref a1)])) rfl rfl (hb hby d1_31)
  refine own_by (fun t kk_ => st79 _ kk_) ?_
  have f80 := Exa.wr W79 f67
  have f81 := Keep.wr f68 W79 (Or.inl (by simp))
  have f82 := Fld.other W79 f69 (Or.inr (slot_ne (Or.inl (hw _ (List.mem_of_getElem? (i := 14) rfl))) (Or.inr (hw _ (List.mem_of_getElem? (i := 22) rfl))) (by decide) (t := (.array .long)) (t' := .int) (by decide) (by decide)))
  have f83 := Fld.other W79 f70 (Or.inr (slot_ne (Or.inl (hw _ (List.mem_of_getElem? (i := 16) rfl))) (Or.inr (hw _ (List.mem_of_getElem? (i := 22) rfl))) (by decide) (t := (.array .long)) (t' := .int) (by decide) (by decide)))
  have f84 := Fld.other W79 f71 (Or.inr (slot_ne (Or.inr (hw _ (List.mem_of_getElem? (i := 18) rfl))) (Or.inr (hw _ (List.mem_of_getElem? (i := 22) rfl))) (by decide) (t := .long) (t' := .int) (by decide) (by decide)))
  have f85 := Fld.other W79 f78 (Or.inr (slot_ne (Or.inr (hw _ (List.mem_of_getElem? (i := 20) rfl))) (Or.inr (hw _ (List.mem_of_getElem? (i := 22) rfl))) (by decide) (t := .int) (t' := .int) (by decide) (by decide)))
  have f86 := Fld.other W79 f73 (Or.inr (slot_ne (Or.inl (hw _ (List.mem_of_getElem? (i := 34) rfl))) (Or.inr (hw _ (List.mem_of_getElem? (i := 22) rfl))) (by decide) (t := .int) (t' := .int) (by decide) (by decide)))
  have f87 := Fld.other W79 f74 (Or.inr (slot_ne (Or.inl (hw _ (List.mem_of_getElem? (i := 54) rfl))) (Or.inr (hw _ (List.mem_of_getElem? (i := 22) rfl))) (by decide) (t := .long) (t' := .int) (by decide) (by decide)))
  have f89 := OwnA.other W79 f76 (Ne.symm ne3)
  have f90 := OwnA.other W79 f77 (Ne.symm ne27)
  have f91 := Fld.same W79 f75
  have N79 := Fr.snoc X79 N66 g1
  have sz79 : n0 ≤ h79.size := by rw [W79.size]; exact sz66
  show OwnG p e below s _ _ _ (T79.setTop (mkF m 34 #[.val (.ref a1), .val (.long R), .second, .val (.int H.toInt32), .val (.int (25 : Int32))] []))
  exact own_outV X79 hx hret hlk (hb hby d1_34) (by show _ ∧ _; rw [e79]; exact ⟨rfl, N79, f81, sa, ea, gg_sa, gg_ea, ne3, ne27, ne28, ⟨f80, f82, f83, f84, f85, f86, f87, f89, f90⟩⟩) (by decide) (by decide)
theorem d3_0 : decode prog_8_method_6_code 0 = .ok (.iload_n 1, 1) := by decide +kernel
theorem d3_1 : decode prog_8_method_6_code 1 = .ok (.i2l, 1) := by decide +kernel
theorem d3_2 : decode prog_8_method_6_code 2 = .ok (.aload_n 0, 1) := by decide +kernel
theorem d3_3 : decode prog_8_method_6_code 3 = .ok (.getfield 16, 3) := by decide +kernel
theorem d3_6 : decode prog_8_method_6_code 6 = .ok (.lmul, 1) := by decide +kernel
theorem d3_7 : decode prog_8_method_6_code 7 = .ok (.lstore 4, 2) := by decide +kernel
theorem d3_9 : decode prog_8_method_6_code 9 = .ok (.lload_n 2, 1) := by decide +kernel
theorem d3_10 : decode prog_8_method_6_code 10 = .ok (.aload_n 0, 1) := by decide +kernel
theorem d3_11 : decode prog_8_method_6_code 11 = .ok (.getfield 20, 3) := by decide +kernel
theorem d3_14 : decode prog_8_method_6_code 14 = .ok (.i2l, 1) := by decide +kernel
theorem d3_15 : decode prog_8_method_6_code 15 = .ok (.lmul, 1) := by decide +kernel
theorem d3_16 : decode prog_8_method_6_code 16 = .ok (.aload_n 0, 1) := by decide +kernel
theorem d3_17 : decode prog_8_method_6_code 17 = .ok (.iload_n 1, 1) := by decide +kernel
theorem d3_18 : decode prog_8_method_6_code 18 = .ok (.invokevirtual 42, 3) := by decide +kernel
theorem d3_21 : decode prog_8_method_6_code 21 = .ok (.lsub, 1) := by decide +kernel
theorem d3_22 : decode prog_8_method_6_code 22 = .ok (.lstore 6, 2) := by decide +kernel
theorem d3_24 : decode prog_8_method_6_code 24 = .ok (.aload_n 0, 1) := by decide +kernel
theorem d3_25 : decode prog_8_method_6_code 25 = .ok (.getfield 30, 3) := by decide +kernel
theorem d3_28 : decode prog_8_method_6_code 28 = .ok (.ifCond .le 33, 3) := by decide +kernel
theorem d3_31 : decode prog_8_method_6_code 31 = .ok (.aload_n 0, 1) := by decide +kernel
theorem d3_32 : decode prog_8_method_6_code 32 = .ok (.getfield 7, 3) := by decide +kernel
theorem d3_35 : decode prog_8_method_6_code 35 = .ok (.aload_n 0, 1) := by decide +kernel
theorem d3_36 : decode prog_8_method_6_code 36 = .ok (.getfield 30, 3) := by decide +kernel
theorem d3_39 : decode prog_8_method_6_code 39 = .ok (.iconst 1, 1) := by decide +kernel
theorem d3_40 : decode prog_8_method_6_code 40 = .ok (.isub, 1) := by decide +kernel
theorem d3_41 : decode prog_8_method_6_code 41 = .ok (.laload, 1) := by decide +kernel
theorem d3_42 : decode prog_8_method_6_code 42 = .ok (.lload 4, 2) := by decide +kernel
theorem d3_44 : decode prog_8_method_6_code 44 = .ok (.lcmp, 1) := by decide +kernel
theorem d3_45 : decode prog_8_method_6_code 45 = .ok (.ifCond .lt 16, 3) := by decide +kernel
theorem d3_48 : decode prog_8_method_6_code 48 = .ok (.aload_n 0, 1) := by decide +kernel
theorem d3_49 : decode prog_8_method_6_code 49 = .ok (.dup, 1) := by decide +kernel
theorem d3_50 : decode prog_8_method_6_code 50 = .ok (.getfield 30, 3) := by decide +kernel
theorem d3_53 : decode prog_8_method_6_code 53 = .ok (.iconst 1, 1) := by decide +kernel
theorem d3_54 : decode prog_8_method_6_code 54 = .ok (.isub, 1) := by decide +kernel
theorem d3_55 : decode prog_8_method_6_code 55 = .ok (.putfield 30, 3) := by decide +kernel
theorem d3_58 : decode prog_8_method_6_code 58 = .ok (.goto (-34), 3) := by decide +kernel
theorem d3_61 : decode prog_8_method_6_code 61 = .ok (.aload_n 0, 1) := by decide +kernel
theorem d3_62 : decode prog_8_method_6_code 62 = .ok (.getfield 30, 3) := by decide +kernel
theorem d3_65 : decode prog_8_method_6_code 65 = .ok (.ifCond .le 30, 3) := by decide +kernel
theorem d3_68 : decode prog_8_method_6_code 68 = .ok (.aload_n 0, 1) := by decide +kernel
theorem d3_69 : decode prog_8_method_6_code 69 = .ok (.getfield 13, 3) := by decide +kernel
theorem d3_72 : decode prog_8_method_6_code 72 = .ok (.aload_n 0, 1) := by decide +kernel
theorem d3_73 : decode prog_8_method_6_code 73 = .ok (.getfield 30, 3) := by decide +kernel
theorem d3_76 : decode prog_8_method_6_code 76 = .ok (.iconst 1, 1) := by decide +kernel
theorem d3_77 : decode prog_8_method_6_code 77 = .ok (.isub, 1) := by decide +kernel
theorem d3_78 : decode prog_8_method_6_code 78 = .ok (.aload_n 0, 1) := by decide +kernel
theorem d3_79 : decode prog_8_method_6_code 79 = .ok (.getfield 13, 3) := by decide +kernel
theorem d3_82 : decode prog_8_method_6_code 82 = .ok (.aload_n 0, 1) := by decide +kernel
theorem d3_83 : decode prog_8_method_6_code 83 = .ok (.getfield 30, 3) := by decide +kernel
theorem d3_86 : decode prog_8_method_6_code 86 = .ok (.iconst 1, 1) := by decide +kernel
theorem d3_87 : decode prog_8_method_6_code 87 = .ok (.isub, 1) := by decide +kernel
theorem d3_88 : decode prog_8_method_6_code 88 = .ok (.laload, 1) := by decide +kernel
theorem d3_89 : decode prog_8_method_6_code 89 = .ok (.lload 4, 2) := by decide +kernel
theorem d3_91 : decode prog_8_method_6_code 91 = .ok (.invokestatic 33, 3) := by decide +kernel
theorem d3_94 : decode prog_8_method_6_code 94 = .ok (.lastore, 1) := by decide +kernel
theorem d3_95 : decode prog_8_method_6_code 95 = .ok (.aload_n 0, 1) := by decide +kernel
theorem d3_96 : decode prog_8_method_6_code 96 = .ok (.getfield 20, 3) := by decide +kernel
theorem d3_99 : decode prog_8_method_6_code 99 = .ok (.i2l, 1) := by decide +kernel
theorem d3_100 : decode prog_8_method_6_code 100 = .ok (.aload_n 0, 1) := by decide +kernel
theorem d3_101 : decode prog_8_method_6_code 101 = .ok (.getfield 16, 3) := by decide +kernel
theorem d3_104 : decode prog_8_method_6_code 104 = .ok (.lmul, 1) := by decide +kernel
theorem d3_105 : decode prog_8_method_6_code 105 = .ok (.lstore 8, 2) := by decide +kernel
theorem d3_107 : decode prog_8_method_6_code 107 = .ok (.aconst_null, 1) := by decide +kernel
theorem d3_108 : decode prog_8_method_6_code 108 = .ok (.astore 10, 2) := by decide +kernel
theorem d3_110 : decode prog_8_method_6_code 110 = .ok (.lload 6, 2) := by decide +kernel
theorem d3_112 : decode prog_8_method_6_code 112 = .ok (.lconst 0, 1) := by decide +kernel
theorem d3_113 : decode prog_8_method_6_code 113 = .ok (.lcmp, 1) := by decide +kernel
theorem d3_114 : decode prog_8_method_6_code 114 = .ok (.ifCond .le 95, 3) := by decide +kernel
theorem d3_117 : decode prog_8_method_6_code 117 = .ok (.aload_n 0, 1) := by decide +kernel
theorem d3_118 : decode prog_8_method_6_code 118 = .ok (.getfield 30, 3) := by decide +kernel
theorem d3_121 : decode prog_8_method_6_code 121 = .ok (.aload_n 0, 1) := by decide +kernel
theorem d3_122 : decode prog_8_method_6_code 122 = .ok (.getfield 7, 3) := by decide +kernel
theorem d3_125 : decode prog_8_method_6_code 125 = .ok (.arraylength, 1) := by decide +kernel
theorem d3_126 : decode prog_8_method_6_code 126 = .ok (.if_icmp .ne 37, 3) := by decide +kernel
theorem d3_129 : decode prog_8_method_6_code 129 = .ok (.aload_n 0, 1) := by decide +kernel
theorem d3_130 : decode prog_8_method_6_code 130 = .ok (.aload_n 0, 1) := by decide +kernel
theorem d3_131 : decode prog_8_method_6_code 131 = .ok (.getfield 7, 3) := by decide +kernel
theorem d3_134 : decode prog_8_method_6_code 134 = .ok (.iconst 2, 1) := by decide +kernel
theorem d3_135 : decode prog_8_method_6_code 135 = .ok (.aload_n 0, 1) := by decide +kernel
theorem d3_136 : decode prog_8_method_6_code 136 = .ok (.getfield 30, 3) := by decide +kernel
theorem d3_139 : decode prog_8_method_6_code 139 = .ok (.imul, 1) := by decide +kernel
theorem d3_140 : decode prog_8_method_6_code 140 = .ok (.invokestatic 46, 3) := by decide +kernel
theorem d3_143 : decode prog_8_method_6_code 143 = .ok (.putfield 7, 3) := by decide +kernel
theorem d3_146 : decode prog_8_method_6_code 146 = .ok (.aload_n 0, 1) := by decide +kernel
theorem d3_147 : decode prog_8_method_6_code 147 = .ok (.aload_n 0, 1) := by decide +kernel
theorem d3_148 : decode prog_8_method_6_code 148 = .ok (.getfield 13, 3) := by decide +kernel
theorem d3_151 : decode prog_8_method_6_code 151 = .ok (.iconst 2, 1) := by decide +kernel
theorem d3_152 : decode prog_8_method_6_code 152 = .ok (.aload_n 0, 1) := by decide +kernel
theorem d3_153 : decode prog_8_method_6_code 153 = .ok (.getfield 30, 3) := by decide +kernel
theorem d3_156 : decode prog_8_method_6_code 156 = .ok (.imul, 1) := by decide +kernel
theorem d3_157 : decode prog_8_method_6_code 157 = .ok (.invokestatic 46, 3) := by decide +kernel
theorem d3_160 : decode prog_8_method_6_code 160 = .ok (.putfield 13, 3) := by decide +kernel
theorem d3_163 : decode prog_8_method_6_code 163 = .ok (.aload_n 0, 1) := by decide +kernel
theorem d3_164 : decode prog_8_method_6_code 164 = .ok (.getfield 7, 3) := by decide +kernel
theorem d3_167 : decode prog_8_method_6_code 167 = .ok (.aload_n 0, 1) := by decide +kernel
theorem d3_168 : decode prog_8_method_6_code 168 = .ok (.getfield 30, 3) := by decide +kernel
theorem d3_171 : decode prog_8_method_6_code 171 = .ok (.lload 8, 2) := by decide +kernel
theorem d3_173 : decode prog_8_method_6_code 173 = .ok (.lload 6, 2) := by decide +kernel
theorem d3_175 : decode prog_8_method_6_code 175 = .ok (.lsub, 1) := by decide +kernel
theorem d3_176 : decode prog_8_method_6_code 176 = .ok (.lastore, 1) := by decide +kernel
theorem d3_177 : decode prog_8_method_6_code 177 = .ok (.aload_n 0, 1) := by decide +kernel
theorem d3_178 : decode prog_8_method_6_code 178 = .ok (.getfield 13, 3) := by decide +kernel
theorem d3_181 : decode prog_8_method_6_code 181 = .ok (.aload_n 0, 1) := by decide +kernel
theorem d3_182 : decode prog_8_method_6_code 182 = .ok (.getfield 30, 3) := by decide +kernel
theorem d3_185 : decode prog_8_method_6_code 185 = .ok (.lload 8, 2) := by decide +kernel
theorem d3_187 : decode prog_8_method_6_code 187 = .ok (.lastore, 1) := by decide +kernel
theorem d3_188 : decode prog_8_method_6_code 188 = .ok (.aload_n 0, 1) := by decide +kernel
theorem d3_189 : decode prog_8_method_6_code 189 = .ok (.dup, 1) := by decide +kernel
theorem d3_190 : decode prog_8_method_6_code 190 = .ok (.getfield 30, 3) := by decide +kernel
theorem d3_193 : decode prog_8_method_6_code 193 = .ok (.iconst 1, 1) := by decide +kernel
theorem d3_194 : decode prog_8_method_6_code 194 = .ok (.iadd, 1) := by decide +kernel
theorem d3_195 : decode prog_8_method_6_code 195 = .ok (.putfield 30, 3) := by decide +kernel
theorem d3_198 : decode prog_8_method_6_code 198 = .ok (.aload_n 0, 1) := by decide +kernel
theorem d3_199 : decode prog_8_method_6_code 199 = .ok (.lload 8, 2) := by decide +kernel
theorem d3_201 : decode prog_8_method_6_code 201 = .ok (.lload 6, 2) := by decide +kernel
theorem d3_203 : decode prog_8_method_6_code 203 = .ok (.lsub, 1) := by decide +kernel
theorem d3_204 : decode prog_8_method_6_code 204 = .ok (.invokevirtual 52, 3) := by decide +kernel
theorem d3_207 : decode prog_8_method_6_code 207 = .ok (.astore 10, 2) := by decide +kernel
theorem d3_209 : decode prog_8_method_6_code 209 = .ok (.aload_n 0, 1) := by decide +kernel
theorem d3_210 : decode prog_8_method_6_code 210 = .ok (.lload_n 2, 1) := by decide +kernel
theorem d3_211 : decode prog_8_method_6_code 211 = .ok (.putfield 27, 3) := by decide +kernel
theorem d3_214 : decode prog_8_method_6_code 214 = .ok (.aload 10, 2) := by decide +kernel
theorem d3_216 : decode prog_8_method_6_code 216 = .ok (.areturn, 1) := by decide +kernel
theorem pd_4 : parseMethodDescriptor "(I)J" = some ⟨[.int], some .long⟩ := by decide +kernel
theorem ef_3p (m : MethodId) (x0 : Addr) (x1 : Int32) (x2 : Int64) : entryFrame m #[(.ref x0), (.int x1), (.long x2)] 11 = mkF m 0 #[.val (.ref x0), .val (.int x1), .val (.long x2), .second, .unset, .unset, .unset, .unset, .unset, .unset, .unset] [] := by first | (simp [entryFrame, mkF, argsToLocals, Value.category]; done) | rfl
def Q3p (Z : State) (a1 sa ea zd : Addr) (R sp : Int64) (H : Nat) (h0 : Heap) (n0 : Nat) (v : Option Value) (h : Heap) (L : List Loc) : Prop := v = some (.ref zd) ∧ Fr n0 L ∧ own_X Z h a1 sa ea R H.toInt32 1 R (ownSet (fun _ => .long (0 : Int64)) 0 (.long 0)) (ownSet (fun _ => .long (0 : Int64)) 0 (.long (H.toInt32.toInt64 * R)))
set_option maxRecDepth 65536 in
set_option maxHeartbeats 40000000 in
theorem rm3p (l : Launch) (Z : State) (a0 : Array Value) (hw : ∀ d ∈ tables_1, d.before a0 Z = true) (ws : List Jvm.Cond) (a1 sa ea zd : Addr) (R sp : Int64) (H : Nat) (h0 : Heap) (n0 : Nat) (Z0 : n0 ≤ h0.size) (Ob : own_X Z h0 a1 sa ea R H.toInt32 0 0 (fun _ => .long (0 : Int64)) (fun _ => .long (0 : Int64))) (SZ : Sta Z h0 "java/time/Duration" "ZERO" "Ljava/time/Duration;" (.ref zd)) (SP : Sta Z h0 "com/example/gasholder/gasholder/Execution" "SECONDS_PER_HOUR" "J" (.long sp)) (nas : a1 ≠ sa) (nae : a1 ≠ ea) (nse : sa ≠ ea) (g1 : n0 ≤ a1) (g2 : n0 ≤ sa) (g3 : n0 ≤ ea) (hB : ownB R) (hH1 : 1 ≤ H) (hH : H ≤ 25) (hnz : R ≠ 0) :
    MetFree l (⟨"com/example/gasholder/gasholder/Execution", "schedule", "(IJ)Ljava/time/Duration;"⟩ : MethodName) (head1 (Jvm.Cond.code (⟨"com/example/gasholder/gasholder/Execution", "schedule", "(IJ)Ljava/time/Duration;"⟩ : MethodName) prog_8_method_6_code 11 (some (.object "java/time/Duration")) :: ws) ({ frames := 3, cells := 0, slots := 0, locals := 48 } : Room)) (fun aa_ U => aa_ = #[(.ref a1), (.int (0 : Int32)), (.long R)] ∧ Z.Warmed39 U.vm ∧ U.heap = h0) (fun _ _ _ _ _ => True) (fun _ U o U' => ∃ v L, o = .returned v ∧ Q3p Z a1 sa ea zd R sp H h0 n0 v U'.heap L ∧ FrameEnd U o U' L ({ frames := 3, cells := 0, slots := 0, locals := 48 } : Room).cells ({ frames := 3, cells := 0, slots := 0, locals := 48 } : Room).slots) := by
  refine own_met (Q := fun v h L => Q3p Z a1 sa ea zd R sp H h0 n0 v h L) (plainFor_of_name pn_2) ?_
  intro p e s m below meth c s₁ hx hby hml hret hlk hown hnm hZ X0 e0
  have N0 := Fr.nil n0
  rw [ef_3p m a1 (0 : Int32) R]
  show OwnG p e below s _ _ _ (s₁.setTop (mkF m 0 #[.val (.ref a1), .val (.int (0 : Int32)), .val (.long R), .second, .unset, .unset, .unset, .unset, .unset, .unset, .unset] []))
  refine own_by (fun t kk_ => XS.iloadN X0.here hx rfl (hb hby d3_0) rfl  kk_) ?_
  show OwnG p e below s _ _ _ (s₁.setTop (mkF m 1 #[.val (.ref a1), .val (.int (0 : Int32)), .val (.long R), .second, .unset, .unset, .unset, .unset, .unset, .unset, .unset] [(.int (0 : Int32))]))
  refine own_by (fun t kk_ => XS.i2l X0.here hx rfl (hb hby d3_1) rfl kk_) ?_
  show OwnG p e below s _ _ _ (s₁.setTop (mkF m 2 #[.val (.ref a1), .val (.int (0 : Int32)), .val (.long R), .second, .unset, .unset, .unset, .unset, .unset, .unset, .unset] [(.long ((0 : Int32).toInt64))]))
  refine own_by (fun t kk_ => XS.aloadN X0.here hx rfl (hb hby d3_2) rfl rfl kk_) ?_
  show OwnG p e below s _ _ _ (s₁.setTop (mkF m 3 #[.val (.ref a1), .val (.int (0 : Int32)), .val (.long R), .second, .unset, .unset, .unset, .unset, .unset, .unset, .unset] [(.ref a1), (.long ((0 : Int32).toInt64))]))
  obtain ⟨T1, X1, e1, st1⟩ := getF X0 hx hZ hown (host := "") (Or.inl (hw _ (List.mem_of_getElem? (i := 17) rfl))) Via.refl e0 Ob.2.2.2.1 (g := (mkF m 3 #[.val (.ref a1), .val (.int (0 : Int32)), .val (.long R), .second, .unset, .unset, .unset, .unset, .unset, .unset, .unset] [(.ref a1), (.long ((0 : Int32).toInt64))])) rfl rfl (hb hby d3_3)
  refine own_by (fun t kk_ => st1 _ kk_) ?_
  show OwnG p e below s _ _ _ (T1.setTop (mkF m 6 #[.val (.ref a1), .val (.int (0 : Int32)), .val (.long R), .second, .unset, .unset, .unset, .unset, .unset, .unset, .unset] [(.long R), (.long ((0 : Int32).toInt64))]))
  refine own_by (fun t kk_ => XS.lmul X1.here hx rfl (hb hby d3_6) rfl kk_) ?_
  show OwnG p e below s _ _ _ (T1.setTop (mkF m 7 #[.val (.ref a1), .val (.int (0 : Int32)), .val (.long R), .second, .unset, .unset, .unset, .unset, .unset, .unset, .unset] [(.long (((0 : Int32).toInt64) * R))]))
  rw [own_0R R]
  show OwnG p e below s _ _ _ (T1.setTop (mkF m 7 #[.val (.ref a1), .val (.int (0 : Int32)), .val (.long R), .second, .unset, .unset, .unset, .unset, .unset, .unset, .unset] [(.long (0 : Int64))]))
  refine own_by (fun t kk_ => XS.lstore X1.here hx rfl (hb hby d3_7) rfl (l' := #[.val (.ref a1), .val (.int (0 : Int32)), .val (.long R), .second, .val (.long (0 : Int64)), .second, .unset, .unset, .unset, .unset, .unset]) rfl kk_) ?_
  show OwnG p e below s _ _ _ (T1.setTop (mkF m 9 #[.val (.ref a1), .val (.int (0 : Int32)), .val (.long R), .second, .val (.long (0 : Int64)), .second, .unset, .unset, .unset, .unset, .unset] []))
  refine own_by (fun t kk_ => XS.lloadN X1.here hx rfl (hb hby d3_9) rfl  kk_) ?_
  show OwnG p e below s _ _ _ (T1.setTop (mkF m 10 #[.val (.ref a1), .val (.int (0 : Int32)), .val (.long R), .second, .val (.long (0 : Int64)), .second, .unset, .unset, .unset, .unset, .unset] [(.long R)]))
  refine own_by (fun t kk_ => XS.aloadN X1.here hx rfl (hb hby d3_10) rfl rfl kk_) ?_
  show OwnG p e below s _ _ _ (T1.setTop (mkF m 11 #[.val (.ref a1), .val (.int (0 : Int32)), .val (.long R), .second, .val (.long (0 : Int64)), .second, .unset, .unset, .unset, .unset, .unset] [(.ref a1), (.long R)]))
  obtain ⟨T2, X2, e2, st2⟩ := getF X1 hx hZ hown (host := "") (Or.inl (hw _ (List.mem_of_getElem? (i := 19) rfl))) Via.refl e1 Ob.2.2.2.2.1 (g := (mkF m 11 #[.val (.ref a1), .val (.int (0 : Int32)), .val (.long R), .second, .val (.long (0 : Int64)), .second, .unset, .unset, .unset, .unset, .unset] [(.ref a1), (.long R)])) rfl rfl (hb hby d3_11)
  refine own_by (fun t kk_ => st2 _ kk_) ?_
  show OwnG p e below s _ _ _ (T2.setTop (mkF m 14 #[.val (.ref a1), .val (.int (0 : Int32)), .val (.long R), .second, .val (.long (0 : Int64)), .second, .unset, .unset, .unset, .unset, .unset] [(.int H.toInt32), (.long R)]))
  refine own_by (fun t kk_ => XS.i2l X2.here hx rfl (hb hby d3_14) rfl kk_) ?_
  show OwnG p e below s _ _ _ (T2.setTop (mkF m 15 #[.val (.ref a1), .val (.int (0 : Int32)), .val (.long R), .second, .val (.long (0 : Int64)), .second, .unset, .unset, .unset, .unset, .unset] [(.long (H.toInt32.toInt64)), (.long R)]))
  refine own_by (fun t kk_ => XS.lmul X2.here hx rfl (hb hby d3_15) rfl kk_) ?_
  show OwnG p e below s _ _ _ (T2.setTop (mkF m 16 #[.val (.ref a1), .val (.int (0 : Int32)), .val (.long R), .second, .val (.long (0 : Int64)), .second, .unset, .unset, .unset, .unset, .unset] [(.long (R * (H.toInt32.toInt64)))]))
  refine own_by (fun t kk_ => XS.aloadN X2.here hx rfl (hb hby d3_16) rfl rfl kk_) ?_
  show OwnG p e below s _ _ _ (T2.setTop (mkF m 17 #[.val (.ref a1), .val (.int (0 : Int32)), .val (.long R), .second, .val (.long (0 : Int64)), .second, .unset, .unset, .unset, .unset, .unset] [(.ref a1), (.long (R * (H.toInt32.toInt64)))]))
  refine own_by (fun t kk_ => XS.iloadN X2.here hx rfl (hb hby d3_17) rfl  kk_) ?_
  show OwnG p e below s _ _ _ (T2.setTop (mkF m 18 #[.val (.ref a1), .val (.int (0 : Int32)), .val (.long R), .second, .val (.long (0 : Int64)), .second, .unset, .unset, .unset, .unset, .unset] [(.int (0 : Int32)), (.ref a1), (.long (R * (H.toInt32.toInt64)))]))
  obtain ⟨cq3, kq3, q3a, q3b, q3c⟩ := isOf hZ e2 Ob.1
  obtain ⟨_, _, ⟨T3, L3, k3, n3⟩, -, X3, ⟨Lc3, hQ3, l3, y3, z3⟩, st3⟩ := X2.virtualBack hx (y := (⟨"com/example/gasholder/gasholder/Execution", "flowedBy", "(I)J"⟩ : MethodName)) (z := (⟨"com/example/gasholder/gasholder/Execution", "flowedBy", "(I)J"⟩ : MethodName)) hown (mvT hZ (hw _ (List.mem_of_getElem? (i := 28) rfl))) (mvT hZ (hw _ (List.mem_of_getElem? (i := 29) rfl))) (notFace_of_selects (args := #[]) (mvT hZ (hw _ (List.mem_of_getElem? (i := 31) rfl)))) (mvT hZ (hw _ (List.mem_of_getElem? (i := 31) rfl))) (mvT hZ (hw _ (List.mem_of_getElem? (i := 30) rfl))) (by decide) (backOf (W := 2) (rm4z l Z a0 hw [] a1 sa ea R H 0 0 (fun _ => .long (0 : Int64)) (fun _ => .long (0 : Int64)) h0 n0 Z0 Ob) hZ (hw _ (List.mem_of_getElem? (i := 32) rfl)) (hw _ (List.mem_of_getElem? (i := 5) rfl)) (by decide) (by decide)) q3a q3c (g := (mkF m 18 #[.val (.ref a1), .val (.int (0 : Int32)), .val (.long R), .second, .val (.long (0 : Int64)), .second, .unset, .unset, .unset, .unset, .unset] [(.int (0 : Int32)), (.ref a1), (.long (R * (H.toInt32.toInt64)))])) rfl (by rw [hml]; rfl) (Steps.refl _) (argsL := [(.int (0 : Int32))]) (rest := [(.long (R * (H.toInt32.toInt64)))]) (lenOf pd_4 rfl) rfl (by show 2 * 0 + _ ≤ _; exact Nat.le_of_eq rfl) (hb hby d3_18) (fun _ _ => ⟨rfl, e2, (by decide : 0 + 0 ≤ _), (by decide : 0 + 0 ≤ _)⟩)
  dsimp only [Pt.U, Pt.locs, Pt.cells, Pt.slots] at X3 l3 y3 z3 st3 hQ3
  subst l3 y3 z3
  refine own_by (fun t kk_ => st3.trans kk_) ?_
  obtain ⟨rfl, N3q, hh3⟩ := hQ3
  have N3 := Fr.app N0 N3q
  have eh3 : T3.heap = h0 := hh3.trans rfl
  have f4 := Ob.1
  rw [← hh3] at f4
  have f5 := Ob.2.1
  rw [← hh3] at f5
  have f6 := Ob.2.2.1
  rw [← hh3] at f6
  have f7 := Ob.2.2.2.1
  rw [← hh3] at f7
  have f8 := Ob.2.2.2.2.1
  rw [← hh3] at f8
  have f9 := Ob.2.2.2.2.2.1
  rw [← hh3] at f9
  have f10 := Ob.2.2.2.2.2.2.1
  rw [← hh3] at f10
  have f11 := Ob.2.2.2.2.2.2.2.1
  rw [← hh3] at f11
  have f12 := Ob.2.2.2.2.2.2.2.2
  rw [← hh3] at f12
  have f13 := SZ
  rw [← hh3] at f13
  have f14 := SP
  rw [← hh3] at f14
  have sz3 : n0 ≤ T3.heap.size := by rw [hh3]; exact Z0
  show OwnG p e below s _ _ _ (T3.setTop (mkF m 21 #[.val (.ref a1), .val (.int (0 : Int32)), .val (.long R), .second, .val (.long (0 : Int64)), .second, .unset, .unset, .unset, .unset, .unset] [(.long (0 : Int64)), (.long (R * (H.toInt32.toInt64)))]))
  refine own_by (fun t kk_ => XS.lsub X3.here hx rfl (hb hby d3_21) rfl kk_) ?_
  show OwnG p e below s _ _ _ (T3.setTop (mkF m 22 #[.val (.ref a1), .val (.int (0 : Int32)), .val (.long R), .second, .val (.long (0 : Int64)), .second, .unset, .unset, .unset, .unset, .unset] [(.long ((R * (H.toInt32.toInt64)) - (0 : Int64)))]))
  rw [own_restE R _]
  show OwnG p e below s _ _ _ (T3.setTop (mkF m 22 #[.val (.ref a1), .val (.int (0 : Int32)), .val (.long R), .second, .val (.long (0 : Int64)), .second, .unset, .unset, .unset, .unset, .unset] [(.long (H.toInt32.toInt64 * R))]))
  refine own_by (fun t kk_ => XS.lstore X3.here hx rfl (hb hby d3_22) rfl (l' := #[.val (.ref a1), .val (.int (0 : Int32)), .val (.long R), .second, .val (.long (0 : Int64)), .second, .val (.long (H.toInt32.toInt64 * R)), .second, .unset, .unset, .unset]) rfl kk_) ?_
  show OwnG p e below s _ _ _ (T3.setTop (mkF m 24 #[.val (.ref a1), .val (.int (0 : Int32)), .val (.long R), .second, .val (.long (0 : Int64)), .second, .val (.long (H.toInt32.toInt64 * R)), .second, .unset, .unset, .unset] []))
  refine own_by (fun t kk_ => XS.aloadN X3.here hx rfl (hb hby d3_24) rfl rfl kk_) ?_
  show OwnG p e below s _ _ _ (T3.setTop (mkF m 25 #[.val (.ref a1), .val (.int (0 : Int32)), .val (.long R), .second, .val (.long (0 : Int64)), .second, .val (.long (H.toInt32.toInt64 * R)), .second, .unset, .unset, .unset] [(.ref a1)]))
  obtain ⟨T15, X15, e15, st15⟩ := getF X3 hx hZ hown (host := "") (Or.inl (hw _ (List.mem_of_getElem? (i := 33) rfl))) Via.refl (rfl : T3.heap = T3.heap) f9 (g := (mkF m 25 #[.val (.ref a1), .val (.int (0 : Int32)), .val (.long R), .second, .val (.long (0 : Int64)), .second, .val (.long (H.toInt32.toInt64 * R)), .second, .unset, .unset, .unset] [(.ref a1)])) rfl rfl (hb hby d3_25)
  refine own_by (fun t kk_ => st15 _ kk_) ?_
  show OwnG p e below s _ _ _ (T15.setTop (mkF m 28 #[.val (.ref a1), .val (.int (0 : Int32)), .val (.long R), .second, .val (.long (0 : Int64)), .second, .val (.long (H.toInt32.toInt64 * R)), .second, .unset, .unset, .unset] [(.int (0 : Int32))]))
  refine own_by (fun t kk_ => XS.ifYes X15.here hx rfl (pc0 := 28) (pc' := 61) rfl (hb hby d3_28) rfl ((if0 _ _).trans (flt (by decide)).2.2.2) (by decide) (by decide) kk_) ?_
  show OwnG p e below s _ _ _ (T15.setTop (mkF m 61 #[.val (.ref a1), .val (.int (0 : Int32)), .val (.long R), .second, .val (.long (0 : Int64)), .second, .val (.long (H.toInt32.toInt64 * R)), .second, .unset, .unset, .unset] []))
  refine own_by (fun t kk_ => XS.aloadN X15.here hx rfl (hb hby d3_61) rfl rfl kk_) ?_
  show OwnG p e below s _ _ _ (T15.setTop (mkF m 62 #[.val (.ref a1), .val (.int (0 : Int32)), .val (.long R), .second, .val (.long (0 : Int64)), .second, .val (.long (H.toInt32.toInt64 * R)), .second, .unset, .unset, .unset] [(.ref a1)]))
  obtain ⟨T16, X16, e16, st16⟩ := getF X15 hx hZ hown (host := "") (Or.inl (hw _ (List.mem_of_getElem? (i := 33) rfl))) Via.refl e15 f9 (g := (mkF m 62 #[.val (.ref a1), .val (.int (0 : Int32)), .val (.long R), .second, .val (.long (0 : Int64)), .second, .val (.long (H.toInt32.toInt64 * R)), .second, .unset, .unset, .unset] [(.ref a1)])) rfl rfl (hb hby d3_62)
  refine own_by (fun t kk_ => st16 _ kk_) ?_
  show OwnG p e below s _ _ _ (T16.setTop (mkF m 65 #[.val (.ref a1), .val (.int (0 : Int32)), .val (.long R), .second, .val (.long (0 : Int64)), .second, .val (.long (H.toInt32.toInt64 * R)), .second, .unset, .unset, .unset] [(.int (0 : Int32))]))
  refine own_by (fun t kk_ => XS.ifYes X16.here hx rfl (pc0 := 65) (pc' := 95) rfl (hb hby d3_65) rfl ((if0 _ _).trans (flt (by decide)).2.2.2) (by decide) (by decide) kk_) ?_
  show OwnG p e below s _ _ _ (T16.setTop (mkF m 95 #[.val (.ref a1), .val (.int (0 : Int32)), .val (.long R), .second, .val (.long (0 : Int64)), .second, .val (.long (H.toInt32.toInt64 * R)), .second, .unset, .unset, .unset] []))
  refine own_by (fun t kk_ => XS.aloadN X16.here hx rfl (hb hby d3_95) rfl rfl kk_) ?_
  show OwnG p e below s _ _ _ (T16.setTop (mkF m 96 #[.val (.ref a1), .val (.int (0 : Int32)), .val (.long R), .second, .val (.long (0 : Int64)), .second, .val (.long (H.toInt32.toInt64 * R)), .second, .unset, .unset, .unset] [(.ref a1)]))
  obtain ⟨T17, X17, e17, st17⟩ := getF X16 hx hZ hown (host := "") (Or.inl (hw _ (List.mem_of_getElem? (i := 19) rfl))) Via.refl e16 f8 (g := (mkF m 96 #[.val (.ref a1), .val (.int (0 : Int32)), .val (.long R), .second, .val (.long (0 : Int64)), .second, .val (.long (H.toInt32.toInt64 * R)), .second, .unset, .unset, .unset] [(.ref a1)])) rfl rfl (hb hby d3_96)
  refine own_by (fun t kk_ => st17 _ kk_) ?_
  show OwnG p e below s _ _ _ (T17.setTop (mkF m 99 #[.val (.ref a1), .val (.int (0 : Int32)), .val (.long R), .second, .val (.long (0 : Int64)), .second, .val (.long (H.toInt32.toInt64 * R)), .second, .unset, .unset, .unset] [(.int H.toInt32)]))
  refine own_by (fun t kk_ => XS.i2l X17.here hx rfl (hb hby d3_99) rfl kk_) ?_
  show OwnG p e below s _ _ _ (T17.setTop (mkF m 100 #[.val (.ref a1), .val (.int (0 : Int32)), .val (.long R), .second, .val (.long (0 : Int64)), .second, .val (.long (H.toInt32.toInt64 * R)), .second, .unset, .unset, .unset] [(.long (H.toInt32.toInt64))]))
  refine own_by (fun t kk_ => XS.aloadN X17.here hx rfl (hb hby d3_100) rfl rfl kk_) ?_
  show OwnG p e below s _ _ _ (T17.setTop (mkF m 101 #[.val (.ref a1), .val (.int (0 : Int32)), .val (.long R), .second, .val (.long (0 : Int64)), .second, .val (.long (H.toInt32.toInt64 * R)), .second, .unset, .unset, .unset] [(.ref a1), (.long (H.toInt32.toInt64))]))
  obtain ⟨T18, X18, e18, st18⟩ := getF X17 hx hZ hown (host := "") (Or.inl (hw _ (List.mem_of_getElem? (i := 17) rfl))) Via.refl e17 f7 (g := (mkF m 101 #[.val (.ref a1), .val (.int (0 : Int32)), .val (.long R), .second, .val (.long (0 : Int64)), .second, .val (.long (H.toInt32.toInt64 * R)), .second, .unset, .unset, .unset] [(.ref a1), (.long (H.toInt32.toInt64))])) rfl rfl (hb hby d3_101)
  refine own_by (fun t kk_ => st18 _ kk_) ?_
  show OwnG p e below s _ _ _ (T18.setTop (mkF m 104 #[.val (.ref a1), .val (.int (0 : Int32)), .val (.long R), .second, .val (.long (0 : Int64)), .second, .val (.long (H.toInt32.toInt64 * R)), .second, .unset, .unset, .unset] [(.long R), (.long (H.toInt32.toInt64))]))
  refine own_by (fun t kk_ => XS.lmul X18.here hx rfl (hb hby d3_104) rfl kk_) ?_
  show OwnG p e below s _ _ _ (T18.setTop (mkF m 105 #[.val (.ref a1), .val (.int (0 : Int32)), .val (.long R), .second, .val (.long (0 : Int64)), .second, .val (.long (H.toInt32.toInt64 * R)), .second, .unset, .unset, .unset] [(.long ((H.toInt32.toInt64) * R))]))
  refine own_by (fun t kk_ => XS.lstore X18.here hx rfl (hb hby d3_105) rfl (l' := #[.val (.ref a1), .val (.int (0 : Int32)), .val (.long R), .second, .val (.long (0 : Int64)), .second, .val (.long (H.toInt32.toInt64 * R)), .second, .val (.long ((H.toInt32.toInt64) * R)), .second, .unset]) rfl kk_) ?_
  show OwnG p e below s _ _ _ (T18.setTop (mkF m 107 #[.val (.ref a1), .val (.int (0 : Int32)), .val (.long R), .second, .val (.long (0 : Int64)), .second, .val (.long (H.toInt32.toInt64 * R)), .second, .val (.long ((H.toInt32.toInt64) * R)), .second, .unset] []))
  refine own_by (fun t kk_ => XS.aconstNull X18.here hx rfl (hb hby d3_107) kk_) ?_
  show OwnG p e below s _ _ _ (T18.setTop (mkF m 108 #[.val (.ref a1), .val (.int (0 : Int32)), .val (.long R), .second, .val (.long (0 : Int64)), .second, .val (.long (H.toInt32.toInt64 * R)), .second, .val (.long ((H.toInt32.toInt64) * R)), .second, .unset] [.null]))
  refine own_by (fun t kk_ => XS.astore X18.here hx rfl (hb hby d3_108) rfl rfl (l' := #[.val (.ref a1), .val (.int (0 : Int32)), .val (.long R), .second, .val (.long (0 : Int64)), .second, .val (.long (H.toInt32.toInt64 * R)), .second, .val (.long ((H.toInt32.toInt64) * R)), .second, .val .null]) rfl kk_) ?_
  show OwnG p e below s _ _ _ (T18.setTop (mkF m 110 #[.val (.ref a1), .val (.int (0 : Int32)), .val (.long R), .second, .val (.long (0 : Int64)), .second, .val (.long (H.toInt32.toInt64 * R)), .second, .val (.long ((H.toInt32.toInt64) * R)), .second, .val .null] []))
  refine own_by (fun t kk_ => XS.lload X18.here hx rfl (hb hby d3_110) rfl  kk_) ?_
  show OwnG p e below s _ _ _ (T18.setTop (mkF m 112 #[.val (.ref a1), .val (.int (0 : Int32)), .val (.long R), .second, .val (.long (0 : Int64)), .second, .val (.long (H.toInt32.toInt64 * R)), .second, .val (.long ((H.toInt32.toInt64) * R)), .second, .val .null] [(.long (H.toInt32.toInt64 * R))]))
  refine own_by (fun t kk_ => XS.lconst X18.here hx rfl (hb hby d3_112) kk_) ?_
  show OwnG p e below s _ _ _ (T18.setTop (mkF m 113 #[.val (.ref a1), .val (.int (0 : Int32)), .val (.long R), .second, .val (.long (0 : Int64)), .second, .val (.long (H.toInt32.toInt64 * R)), .second, .val (.long ((H.toInt32.toInt64) * R)), .second, .val .null] [(.long (0 : Int64)), (.long (H.toInt32.toInt64 * R))]))
  refine own_by (fun t kk_ => XS.lcmp X18.here hx rfl (hb hby d3_113) rfl kk_) ?_
  show OwnG p e below s _ _ _ (T18.setTop (mkF m 114 #[.val (.ref a1), .val (.int (0 : Int32)), .val (.long R), .second, .val (.long (0 : Int64)), .second, .val (.long (H.toInt32.toInt64 * R)), .second, .val (.long ((H.toInt32.toInt64) * R)), .second, .val .null] [(.int (lcmpW (H.toInt32.toInt64 * R) (0 : Int64)))]))
  refine own_by (fun t kk_ => XS.ifNo X18.here hx rfl (hb hby d3_114) rfl ((if0 _ _).trans (tlt ((lw_gt _ _).mpr (own_Epos hB hnz hH1 hH))).2.2.2) kk_) ?_
  show OwnG p e below s _ _ _ (T18.setTop (mkF m 117 #[.val (.ref a1), .val (.int (0 : Int32)), .val (.long R), .second, .val (.long (0 : Int64)), .second, .val (.long (H.toInt32.toInt64 * R)), .second, .val (.long ((H.toInt32.toInt64) * R)), .second, .val .null] []))
  refine own_by (fun t kk_ => XS.aloadN X18.here hx rfl (hb hby d3_117) rfl rfl kk_) ?_
  show OwnG p e below s _ _ _ (T18.setTop (mkF m 118 #[.val (.ref a1), .val (.int (0 : Int32)), .val (.long R), .second, .val (.long (0 : Int64)), .second, .val (.long (H.toInt32.toInt64 * R)), .second, .val (.long ((H.toInt32.toInt64) * R)), .second, .val .null] [(.ref a1)]))
  obtain ⟨T19, X19, e19, st19⟩ := getF X18 hx hZ hown (host := "") (Or.inl (hw _ (List.mem_of_getElem? (i := 33) rfl))) Via.refl e18 f9 (g := (mkF m 118 #[.val (.ref a1), .val (.int (0 : Int32)), .val (.long R), .second, .val (.long (0 : Int64)), .second, .val (.long (H.toInt32.toInt64 * R)), .second, .val (.long ((H.toInt32.toInt64) * R)), .second, .val .null] [(.ref a1)])) rfl rfl (hb hby d3_118)
  refine own_by (fun t kk_ => st19 _ kk_) ?_
  show OwnG p e below s _ _ _ (T19.setTop (mkF m 121 #[.val (.ref a1), .val (.int (0 : Int32)), .val (.long R), .second, .val (.long (0 : Int64)), .second, .val (.long (H.toInt32.toInt64 * R)), .second, .val (.long ((H.toInt32.toInt64) * R)), .second, .val .null] [(.int (0 : Int32))]))
  refine own_by (fun t kk_ => XS.aloadN X19.here hx rfl (hb hby d3_121) rfl rfl kk_) ?_
  show OwnG p e below s _ _ _ (T19.setTop (mkF m 122 #[.val (.ref a1), .val (.int (0 : Int32)), .val (.long R), .second, .val (.long (0 : Int64)), .second, .val (.long (H.toInt32.toInt64 * R)), .second, .val (.long ((H.toInt32.toInt64) * R)), .second, .val .null] [(.ref a1), (.int (0 : Int32))]))
  obtain ⟨T20, X20, e20, st20⟩ := getF X19 hx hZ hown (host := "") (Or.inl (hw _ (List.mem_of_getElem? (i := 13) rfl))) Via.refl e19 f5 (g := (mkF m 122 #[.val (.ref a1), .val (.int (0 : Int32)), .val (.long R), .second, .val (.long (0 : Int64)), .second, .val (.long (H.toInt32.toInt64 * R)), .second, .val (.long ((H.toInt32.toInt64) * R)), .second, .val .null] [(.ref a1), (.int (0 : Int32))])) rfl rfl (hb hby d3_122)
  refine own_by (fun t kk_ => st20 _ kk_) ?_
  show OwnG p e below s _ _ _ (T20.setTop (mkF m 125 #[.val (.ref a1), .val (.int (0 : Int32)), .val (.long R), .second, .val (.long (0 : Int64)), .second, .val (.long (H.toInt32.toInt64 * R)), .second, .val (.long ((H.toInt32.toInt64) * R)), .second, .val .null] [(.ref sa), (.int (0 : Int32))]))
  refine own_by (fun t kk_ => own_len X20 hx hZ e20 f11 (z := (2 : Int32)) rfl (g := (mkF m 125 #[.val (.ref a1), .val (.int (0 : Int32)), .val (.long R), .second, .val (.long (0 : Int64)), .second, .val (.long (H.toInt32.toInt64 * R)), .second, .val (.long ((H.toInt32.toInt64) * R)), .second, .val .null] [(.ref sa), (.int (0 : Int32))])) rfl rfl (hb hby d3_125) _ kk_) ?_
  show OwnG p e below s _ _ _ (T20.setTop (mkF m 126 #[.val (.ref a1), .val (.int (0 : Int32)), .val (.long R), .second, .val (.long (0 : Int64)), .second, .val (.long (H.toInt32.toInt64 * R)), .second, .val (.long ((H.toInt32.toInt64) * R)), .second, .val .null] [(.int (2 : Int32)), (.int (0 : Int32))]))
  refine own_by (fun t kk_ => XS.icmpYes X20.here hx rfl (pc0 := 126) (pc' := 163) rfl (hb hby d3_126) rfl (feq (by decide)).2 (by decide) (by decide) kk_) ?_
  show OwnG p e below s _ _ _ (T20.setTop (mkF m 163 #[.val (.ref a1), .val (.int (0 : Int32)), .val (.long R), .second, .val (.long (0 : Int64)), .second, .val (.long (H.toInt32.toInt64 * R)), .second, .val (.long ((H.toInt32.toInt64) * R)), .second, .val .null] []))
  refine own_by (fun t kk_ => XS.aloadN X20.here hx rfl (hb hby d3_163) rfl rfl kk_) ?_
  show OwnG p e below s _ _ _ (T20.setTop (mkF m 164 #[.val (.ref a1), .val (.int (0 : Int32)), .val (.long R), .second, .val (.long (0 : Int64)), .second, .val (.long (H.toInt32.toInt64 * R)), .second, .val (.long ((H.toInt32.toInt64) * R)), .second, .val .null] [(.ref a1)]))
  obtain ⟨T21, X21, e21, st21⟩ := getF X20 hx hZ hown (host := "") (Or.inl (hw _ (List.mem_of_getElem? (i := 13) rfl))) Via.refl e20 f5 (g := (mkF m 164 #[.val (.ref a1), .val (.int (0 : Int32)), .val (.long R), .second, .val (.long (0 : Int64)), .second, .val (.long (H.toInt32.toInt64 * R)), .second, .val (.long ((H.toInt32.toInt64) * R)), .second, .val .null] [(.ref a1)])) rfl rfl (hb hby d3_164)
  refine own_by (fun t kk_ => st21 _ kk_) ?_
  show OwnG p e below s _ _ _ (T21.setTop (mkF m 167 #[.val (.ref a1), .val (.int (0 : Int32)), .val (.long R), .second, .val (.long (0 : Int64)), .second, .val (.long (H.toInt32.toInt64 * R)), .second, .val (.long ((H.toInt32.toInt64) * R)), .second, .val .null] [(.ref sa)]))
  refine own_by (fun t kk_ => XS.aloadN X21.here hx rfl (hb hby d3_167) rfl rfl kk_) ?_
  show OwnG p e below s _ _ _ (T21.setTop (mkF m 168 #[.val (.ref a1), .val (.int (0 : Int32)), .val (.long R), .second, .val (.long (0 : Int64)), .second, .val (.long (H.toInt32.toInt64 * R)), .second, .val (.long ((H.toInt32.toInt64) * R)), .second, .val .null] [(.ref a1), (.ref sa)]))
  obtain ⟨T22, X22, e22, st22⟩ := getF X21 hx hZ hown (host := "") (Or.inl (hw _ (List.mem_of_getElem? (i := 33) rfl))) Via.refl e21 f9 (g := (mkF m 168 #[.val (.ref a1), .val (.int (0 : Int32)), .val (.long R), .second, .val (.long (0 : Int64)), .second, .val (.long (H.toInt32.toInt64 * R)), .second, .val (.long ((H.toInt32.toInt64) * R)), .second, .val .null] [(.ref a1), (.ref sa)])) rfl rfl (hb hby d3_168)
  refine own_by (fun t kk_ => st22 _ kk_) ?_
  show OwnG p e below s _ _ _ (T22.setTop (mkF m 171 #[.val (.ref a1), .val (.int (0 : Int32)), .val (.long R), .second, .val (.long (0 : Int64)), .second, .val (.long (H.toInt32.toInt64 * R)), .second, .val (.long ((H.toInt32.toInt64) * R)), .second, .val .null] [(.int (0 : Int32)), (.ref sa)]))
  refine own_by (fun t kk_ => XS.lload X22.here hx rfl (hb hby d3_171) rfl  kk_) ?_
  show OwnG p e below s _ _ _ (T22.setTop (mkF m 173 #[.val (.ref a1), .val (.int (0 : Int32)), .val (.long R), .second, .val (.long (0 : Int64)), .second, .val (.long (H.toInt32.toInt64 * R)), .second, .val (.long ((H.toInt32.toInt64) * R)), .second, .val .null] [(.long ((H.toInt32.toInt64) * R)), (.int (0 : Int32)), (.ref sa)]))
  refine own_by (fun t kk_ => XS.lload X22.here hx rfl (hb hby d3_173) rfl  kk_) ?_
  show OwnG p e below s _ _ _ (T22.setTop (mkF m 175 #[.val (.ref a1), .val (.int (0 : Int32)), .val (.long R), .second, .val (.long (0 : Int64)), .second, .val (.long (H.toInt32.toInt64 * R)), .second, .val (.long ((H.toInt32.toInt64) * R)), .second, .val .null] [(.long (H.toInt32.toInt64 * R)), (.long ((H.toInt32.toInt64) * R)), (.int (0 : Int32)), (.ref sa)]))
  refine own_by (fun t kk_ => XS.lsub X22.here hx rfl (hb hby d3_175) rfl kk_) ?_
  show OwnG p e below s _ _ _ (T22.setTop (mkF m 176 #[.val (.ref a1), .val (.int (0 : Int32)), .val (.long R), .second, .val (.long (0 : Int64)), .second, .val (.long (H.toInt32.toInt64 * R)), .second, .val (.long ((H.toInt32.toInt64) * R)), .second, .val .null] [(.long (((H.toInt32.toInt64) * R) - (H.toInt32.toInt64 * R))), (.int (0 : Int32)), (.ref sa)]))
  rw [show (H.toInt32.toInt64 * R) - (H.toInt32.toInt64 * R) = 0 from Int64.sub_self _]
  show OwnG p e below s _ _ _ (T22.setTop (mkF m 176 #[.val (.ref a1), .val (.int (0 : Int32)), .val (.long R), .second, .val (.long (0 : Int64)), .second, .val (.long (H.toInt32.toInt64 * R)), .second, .val (.long ((H.toInt32.toInt64) * R)), .second, .val .null] [(.long (0 : Int64)), (.int (0 : Int32)), (.ref sa)]))
  obtain ⟨T23, h23, X23, e23, W23, A23, st23⟩ := own_stJ X22 hx hZ e22 f11 (j := (0 : Int32)) (i := 0) ⟨by decide, rfl, by decide⟩ (g := (mkF m 176 #[.val (.ref a1), .val (.int (0 : Int32)), .val (.long R), .second, .val (.long (0 : Int64)), .second, .val (.long (H.toInt32.toInt64 * R)), .second, .val (.long ((H.toInt32.toInt64) * R)), .second, .val .null] [(.long (0 : Int64)), (.int (0 : Int32)), (.ref sa)])) rfl rfl (hb hby d3_176)
  refine own_by (fun t kk_ => st23 _ kk_) ?_
  have f24 := Exa.wr W23 f4
  have f25 := Fld.other W23 f5 (Or.inl nas)
  have f26 := Fld.other W23 f6 (Or.inl nas)
  have f27 := Fld.other W23 f7 (Or.inl nas)
  have f28 := Fld.other W23 f8 (Or.inl nas)
  have f29 := Fld.other W23 f9 (Or.inl nas)
  have f30 := Fld.other W23 f10 (Or.inl nas)
  have f32 := OwnA.other W23 f12 (Ne.symm nse)
  have f33 := Sta.wr W23 f13
  have f34 := Sta.wr W23 f14
  have N23 := Fr.snoc X23 N3 g2
  have sz23 : n0 ≤ h23.size := by rw [W23.size]; exact sz3
  show OwnG p e below s _ _ _ (T23.setTop (mkF m 177 #[.val (.ref a1), .val (.int (0 : Int32)), .val (.long R), .second, .val (.long (0 : Int64)), .second, .val (.long (H.toInt32.toInt64 * R)), .second, .val (.long ((H.toInt32.toInt64) * R)), .second, .val .null] []))
  refine own_by (fun t kk_ => XS.aloadN X23.here hx rfl (hb hby d3_177) rfl rfl kk_) ?_
  show OwnG p e below s _ _ _ (T23.setTop (mkF m 178 #[.val (.ref a1), .val (.int (0 : Int32)), .val (.long R), .second, .val (.long (0 : Int64)), .second, .val (.long (H.toInt32.toInt64 * R)), .second, .val (.long ((H.toInt32.toInt64) * R)), .second, .val .null] [(.ref a1)]))
  obtain ⟨T35, X35, e35, st35⟩ := getF X23 hx hZ hown (host := "") (Or.inl (hw _ (List.mem_of_getElem? (i := 15) rfl))) Via.refl e23 f26 (g := (mkF m 178 #[.val (.ref a1), .val (.int (0 : Int32)), .val (.long R), .second, .val (.long (0 : Int64)), .second, .val (.long (H.toInt32.toInt64 * R)), .second, .val (.long ((H.toInt32.toInt64) * R)), .second, .val .null] [(.ref a1)])) rfl rfl (hb hby d3_178)
  refine own_by (fun t kk_ => st35 _ kk_) ?_
  show OwnG p e below s _ _ _ (T35.setTop (mkF m 181 #[.val (.ref a1), .val (.int (0 : Int32)), .val (.long R), .second, .val (.long (0 : Int64)), .second, .val (.long (H.toInt32.toInt64 * R)), .second, .val (.long ((H.toInt32.toInt64) * R)), .second, .val .null] [(.ref ea)]))
  refine own_by (fun t kk_ => XS.aloadN X35.here hx rfl (hb hby d3_181) rfl rfl kk_) ?_
  show OwnG p e below s _ _ _ (T35.setTop (mkF m 182 #[.val (.ref a1), .val (.int (0 : Int32)), .val (.long R), .second, .val (.long (0 : Int64)), .second, .val (.long (H.toInt32.toInt64 * R)), .second, .val (.long ((H.toInt32.toInt64) * R)), .second, .val .null] [(.ref a1), (.ref ea)]))
  obtain ⟨T36, X36, e36, st36⟩ := getF X35 hx hZ hown (host := "") (Or.inl (hw _ (List.mem_of_getElem? (i := 33) rfl))) Via.refl e35 f29 (g := (mkF m 182 #[.val (.ref a1), .val (.int (0 : Int32)), .val (.long R), .second, .val (.long (0 : Int64)), .second, .val (.long (H.toInt32.toInt64 * R)), .second, .val (.long ((H.toInt32.toInt64) * R)), .second, .val .null] [(.ref a1), (.ref ea)])) rfl rfl (hb hby d3_182)
  refine own_by (fun t kk_ => st36 _ kk_) ?_
  show OwnG p e below s _ _ _ (T36.setTop (mkF m 185 #[.val (.ref a1), .val (.int (0 : Int32)), .val (.long R), .second, .val (.long (0 : Int64)), .second, .val (.long (H.toInt32.toInt64 * R)), .second, .val (.long ((H.toInt32.toInt64) * R)), .second, .val .null] [(.int (0 : Int32)), (.ref ea)]))
  refine own_by (fun t kk_ => XS.lload X36.here hx rfl (hb hby d3_185) rfl  kk_) ?_
  show OwnG p e below s _ _ _ (T36.setTop (mkF m 187 #[.val (.ref a1), .val (.int (0 : Int32)), .val (.long R), .second, .val (.long (0 : Int64)), .second, .val (.long (H.toInt32.toInt64 * R)), .second, .val (.long ((H.toInt32.toInt64) * R)), .second, .val .null] [(.long ((H.toInt32.toInt64) * R)), (.int (0 : Int32)), (.ref ea)]))
  obtain ⟨T37, h37, X37, e37, W37, A37, st37⟩ := own_stJ X36 hx hZ e36 f32 (j := (0 : Int32)) (i := 0) ⟨by decide, rfl, by decide⟩ (g := (mkF m 187 #[.val (.ref a1), .val (.int (0 : Int32)), .val (.long R), .second, .val (.long (0 : Int64)), .second, .val (.long (H.toInt32.toInt64 * R)), .second, .val (.long ((H.toInt32.toInt64) * R)), .second, .val .null] [(.long ((H.toInt32.toInt64) * R)), (.int (0 : Int32)), (.ref ea)])) rfl rfl (hb hby d3_187)
  refine own_by (fun t kk_ => st37 _ kk_) ?_
  have f38 := Exa.wr W37 f24
  have f39 := Fld.other W37 f25 (Or.inl nae)
  have f40 := Fld.other W37 f26 (Or.inl nae)
  have f41 := Fld.other W37 f27 (Or.inl nae)
  have f42 := Fld.other W37 f28 (Or.inl nae)
  have f43 := Fld.other W37 f29 (Or.inl nae)
  have f44 := Fld.other W37 f30 (Or.inl nae)
  have f45 := OwnA.other W37 A23 nse
  have f47 := Sta.wr W37 f33
  have f48 := Sta.wr W37 f34
  have N37 := Fr.snoc X37 N23 g3
  have sz37 : n0 ≤ h37.size := by rw [W37.size]; exact sz23
  show OwnG p e below s _ _ _ (T37.setTop (mkF m 188 #[.val (.ref a1), .val (.int (0 : Int32)), .val (.long R), .second, .val (.long (0 : Int64)), .second, .val (.long (H.toInt32.toInt64 * R)), .second, .val (.long ((H.toInt32.toInt64) * R)), .second, .val .null] []))
  refine own_by (fun t kk_ => XS.aloadN X37.here hx rfl (hb hby d3_188) rfl rfl kk_) ?_
  show OwnG p e below s _ _ _ (T37.setTop (mkF m 189 #[.val (.ref a1), .val (.int (0 : Int32)), .val (.long R), .second, .val (.long (0 : Int64)), .second, .val (.long (H.toInt32.toInt64 * R)), .second, .val (.long ((H.toInt32.toInt64) * R)), .second, .val .null] [(.ref a1)]))
  refine own_by (fun t kk_ => XS.dup X37.here hx rfl (hb hby d3_189) rfl rfl kk_) ?_
  show OwnG p e below s _ _ _ (T37.setTop (mkF m 190 #[.val (.ref a1), .val (.int (0 : Int32)), .val (.long R), .second, .val (.long (0 : Int64)), .second, .val (.long (H.toInt32.toInt64 * R)), .second, .val (.long ((H.toInt32.toInt64) * R)), .second, .val .null] [(.ref a1), (.ref a1)]))
  obtain ⟨T49, X49, e49, st49⟩ := getF X37 hx hZ hown (host := "") (Or.inl (hw _ (List.mem_of_getElem? (i := 33) rfl))) Via.refl e37 f43 (g := (mkF m 190 #[.val (.ref a1), .val (.int (0 : Int32)), .val (.long R), .second, .val (.long (0 : Int64)), .second, .val (.long (H.toInt32.toInt64 * R)), .second, .val (.long ((H.toInt32.toInt64) * R)), .second, .val .null] [(.ref a1), (.ref a1)])) rfl rfl (hb hby d3_190)
  refine own_by (fun t kk_ => st49 _ kk_) ?_
  show OwnG p e below s _ _ _ (T49.setTop (mkF m 193 #[.val (.ref a1), .val (.int (0 : Int32)), .val (.long R), .second, .val (.long (0 : Int64)), .second, .val (.long (H.toInt32.toInt64 * R)), .second, .val (.long ((H.toInt32.toInt64) * R)), .second, .val .null] [(.int (0 : Int32)), (.ref a1)]))
  refine own_by (fun t kk_ => XS.iconst X49.here hx rfl (hb hby d3_193) kk_) ?_
  show OwnG p e below s _ _ _ (T49.setTop (mkF m 194 #[.val (.ref a1), .val (.int (0 : Int32)), .val (.long R), .second, .val (.long (0 : Int64)), .second, .val (.long (H.toInt32.toInt64 * R)), .second, .val (.long ((H.toInt32.toInt64) * R)), .second, .val .null] [(.int (1 : Int32)), (.int (0 : Int32)), (.ref a1)]))
  refine own_by (fun t kk_ => XS.iadd X49.here hx rfl (hb hby d3_194) rfl kk_) ?_
  show OwnG p e below s _ _ _ (T49.setTop (mkF m 195 #[.val (.ref a1), .val (.int (0 : Int32)), .val (.long R), .second, .val (.long (0 : Int64)), .second, .val (.long (H.toInt32.toInt64 * R)), .second, .val (.long ((H.toInt32.toInt64) * R)), .second, .val .null] [(.int ((0 : Int32) + (1 : Int32))), (.ref a1)]))
  obtain ⟨T50, h50, X50, e50, W50, st50⟩ := putF X49 hx hZ hown (host := "") (Or.inl (hw _ (List.mem_of_getElem? (i := 33) rfl))) Via.refl e49 f43 f38 (Or.inl (hw _ (List.mem_of_getElem? (i := 34) rfl))) (hw _ (List.mem_of_getElem? (i := 4) rfl)) (ty := .int) (by decide) rfl rfl (g := (mkF m 195 #[.val (.ref a1), .val (.int (0 : Int32)), .val (.long R), .second, .val (.long (0 : Int64)), .second, .val (.long (H.toInt32.toInt64 * R)), .second, .val (.long ((H.toInt32.toInt64) * R)), .second, .val .null] [(.int ((0 : Int32) + (1 : Int32))), (.ref a1)])) rfl rfl (hb hby d3_195)
  refine own_by (fun t kk_ => st50 _ kk_) ?_
  have f51 := Exa.wr W50 f38
  have f52 := Fld.other W50 f39 (Or.inr (slot_ne (Or.inl (hw _ (List.mem_of_getElem? (i := 14) rfl))) (Or.inl (hw _ (List.mem_of_getElem? (i := 34) rfl))) (by decide) (t := (.array .long)) (t' := .int) (by decide) (by decide)))
  have f53 := Fld.other W50 f40 (Or.inr (slot_ne (Or.inl (hw _ (List.mem_of_getElem? (i := 16) rfl))) (Or.inl (hw _ (List.mem_of_getElem? (i := 34) rfl))) (by decide) (t := (.array .long)) (t' := .int) (by decide) (by decide)))
  have f54 := Fld.other W50 f41 (Or.inr (slot_ne (Or.inr (hw _ (List.mem_of_getElem? (i := 18) rfl))) (Or.inl (hw _ (List.mem_of_getElem? (i := 34) rfl))) (by decide) (t := .long) (t' := .int) (by decide) (by decide)))
  have f55 := Fld.other W50 f42 (Or.inr (slot_ne (Or.inr (hw _ (List.mem_of_getElem? (i := 20) rfl))) (Or.inl (hw _ (List.mem_of_getElem? (i := 34) rfl))) (by decide) (t := .int) (t' := .int) (by decide) (by decide)))
  have f57 := Fld.other W50 f44 (Or.inr (slot_ne (Or.inl (hw _ (List.mem_of_getElem? (i := 54) rfl))) (Or.inl (hw _ (List.mem_of_getElem? (i := 34) rfl))) (by decide) (t := .long) (t' := .int) (by decide) (by decide)))
  have f58 := OwnA.other W50 f45 (Ne.symm nas)
  have f59 := OwnA.other W50 A37 (Ne.symm nae)
  have f60 := Sta.wr W50 f47
  have f61 := Sta.wr W50 f48
  have f62 := Fld.same W50 f43
  have N50 := Fr.snoc X50 N37 g1
  have sz50 : n0 ≤ h50.size := by rw [W50.size]; exact sz37
  show OwnG p e below s _ _ _ (T50.setTop (mkF m 198 #[.val (.ref a1), .val (.int (0 : Int32)), .val (.long R), .second, .val (.long (0 : Int64)), .second, .val (.long (H.toInt32.toInt64 * R)), .second, .val (.long ((H.toInt32.toInt64) * R)), .second, .val .null] []))
  refine own_by (fun t kk_ => XS.aloadN X50.here hx rfl (hb hby d3_198) rfl rfl kk_) ?_
  show OwnG p e below s _ _ _ (T50.setTop (mkF m 199 #[.val (.ref a1), .val (.int (0 : Int32)), .val (.long R), .second, .val (.long (0 : Int64)), .second, .val (.long (H.toInt32.toInt64 * R)), .second, .val (.long ((H.toInt32.toInt64) * R)), .second, .val .null] [(.ref a1)]))
  refine own_by (fun t kk_ => XS.lload X50.here hx rfl (hb hby d3_199) rfl  kk_) ?_
  show OwnG p e below s _ _ _ (T50.setTop (mkF m 201 #[.val (.ref a1), .val (.int (0 : Int32)), .val (.long R), .second, .val (.long (0 : Int64)), .second, .val (.long (H.toInt32.toInt64 * R)), .second, .val (.long ((H.toInt32.toInt64) * R)), .second, .val .null] [(.long ((H.toInt32.toInt64) * R)), (.ref a1)]))
  refine own_by (fun t kk_ => XS.lload X50.here hx rfl (hb hby d3_201) rfl  kk_) ?_
  show OwnG p e below s _ _ _ (T50.setTop (mkF m 203 #[.val (.ref a1), .val (.int (0 : Int32)), .val (.long R), .second, .val (.long (0 : Int64)), .second, .val (.long (H.toInt32.toInt64 * R)), .second, .val (.long ((H.toInt32.toInt64) * R)), .second, .val .null] [(.long (H.toInt32.toInt64 * R)), (.long ((H.toInt32.toInt64) * R)), (.ref a1)]))
  refine own_by (fun t kk_ => XS.lsub X50.here hx rfl (hb hby d3_203) rfl kk_) ?_
  show OwnG p e below s _ _ _ (T50.setTop (mkF m 204 #[.val (.ref a1), .val (.int (0 : Int32)), .val (.long R), .second, .val (.long (0 : Int64)), .second, .val (.long (H.toInt32.toInt64 * R)), .second, .val (.long ((H.toInt32.toInt64) * R)), .second, .val .null] [(.long (((H.toInt32.toInt64) * R) - (H.toInt32.toInt64 * R))), (.ref a1)]))
  rw [show (H.toInt32.toInt64 * R) - (H.toInt32.toInt64 * R) = 0 from Int64.sub_self _]
  show OwnG p e below s _ _ _ (T50.setTop (mkF m 204 #[.val (.ref a1), .val (.int (0 : Int32)), .val (.long R), .second, .val (.long (0 : Int64)), .second, .val (.long (H.toInt32.toInt64 * R)), .second, .val (.long ((H.toInt32.toInt64) * R)), .second, .val .null] [(.long (0 : Int64)), (.ref a1)]))
  obtain ⟨cq63, q63, q63'⟩ := Exa.cell f51
  obtain ⟨_, _, ⟨T63, L63, k63, n63⟩, -, X63, ⟨Lc63, hQ63, l63, y63, z63⟩, st63⟩ := X50.privateBack hx (y := (⟨"com/example/gasholder/gasholder/Execution", "nearestSecond", "(J)Ljava/time/Duration;"⟩ : MethodName)) hown (mvT hZ (hw _ (List.mem_of_getElem? (i := 35) rfl))) (mvT hZ (hw _ (List.mem_of_getElem? (i := 36) rfl))) (own_selp hZ (y := (⟨"com/example/gasholder/gasholder/Execution", "nearestSecond", "(J)Ljava/time/Duration;"⟩ : MethodName)) (hw _ (List.mem_of_getElem? (i := 4) rfl)) (hw _ (List.mem_of_getElem? (i := 37) rfl)) (hw _ (List.mem_of_getElem? (i := 36) rfl)) (by decide)) (Cond.privateMethod_at (mvP hZ (hw _ (List.mem_of_getElem? (i := 37) rfl)) (args := #[]))) (mvT hZ (hw _ (List.mem_of_getElem? (i := 38) rfl))) (by decide) (backOf (W := 0) (rm5 l Z a0 hw [] a1 zd R sp h50 n0 sz50 f54 f60 f61 (own_pos hB hnz) hnz) hZ (hw _ (List.mem_of_getElem? (i := 38) rfl)) (hw _ (List.mem_of_getElem? (i := 5) rfl)) (by decide) (by decide)) (g := (mkF m 204 #[.val (.ref a1), .val (.int (0 : Int32)), .val (.long R), .second, .val (.long (0 : Int64)), .second, .val (.long (H.toInt32.toInt64 * R)), .second, .val (.long ((H.toInt32.toInt64) * R)), .second, .val .null] [(.long (0 : Int64)), (.ref a1)])) rfl (by rw [hml]; rfl) (Steps.refl _) (a := a1) (by rw [e50]; exact q63) q63' (argsL := [(.long (0 : Int64))]) (rest := []) (lenOf pd_2 rfl) rfl (by show 2 * 0 + _ ≤ _; exact Nat.le_of_eq rfl) (hb hby d3_204) (fun _ _ => ⟨rfl, e50, (by decide : 0 + 0 ≤ _), (by decide : 0 + 0 ≤ _)⟩)
  dsimp only [Pt.U, Pt.locs, Pt.cells, Pt.slots] at X63 l63 y63 z63 st63 hQ63
  subst l63 y63 z63
  refine own_by (fun t kk_ => st63.trans kk_) ?_
  obtain ⟨rfl, N63q, hh63⟩ := hQ63
  have N63 := Fr.app N50 N63q
  have f64 := f51
  rw [← hh63] at f64
  have f65 := f52
  rw [← hh63] at f65
  have f66 := f53
  rw [← hh63] at f66
  have f67 := f54
  rw [← hh63] at f67
  have f68 := f55
  rw [← hh63] at f68
  have f69 := f62
  rw [← hh63] at f69
  have f70 := f57
  rw [← hh63] at f70
  have f71 := f58
  rw [← hh63] at f71
  have f72 := f59
  rw [← hh63] at f72
  have f73 := f60
  rw [← hh63] at f73
  have f74 := f61
  rw [← hh63] at f74
  have sz63 : n0 ≤ T63.heap.size := by rw [hh63]; exact sz50
  show OwnG p e below s _ _ _ (T63.setTop (mkF m 207 #[.val (.ref a1), .val (.int (0 : Int32)), .val (.long R), .second, .val (.long (0 : Int64)), .second, .val (.long (H.toInt32.toInt64 * R)), .second, .val (.long ((H.toInt32.toInt64) * R)), .second, .val .null] [(.ref zd)]))
  refine own_by (fun t kk_ => XS.astore X63.here hx rfl (hb hby d3_207) rfl rfl (l' := #[.val (.ref a1), .val (.int (0 : Int32)), .val (.long R), .second, .val (.long (0 : Int64)), .second, .val (.long (H.toInt32.toInt64 * R)), .second, .val (.long ((H.toInt32.toInt64) * R)), .second, .val (.ref zd)]) rfl kk_) ?_
  show OwnG p e below s _ _ _ (T63.setTop (mkF m 209 #[.val (.ref a1), .val (.int (0 : Int32)), .val (.long R), .second, .val (.long (0 : Int64)), .second, .val (.long (H.toInt32.toInt64 * R)), .second, .val (.long ((H.toInt32.toInt64) * R)), .second, .val (.ref zd)] []))
  refine own_by (fun t kk_ => XS.aloadN X63.here hx rfl (hb hby d3_209) rfl rfl kk_) ?_
  show OwnG p e below s _ _ _ (T63.setTop (mkF m 210 #[.val (.ref a1), .val (.int (0 : Int32)), .val (.long R), .second, .val (.long (0 : Int64)), .second, .val (.long (H.toInt32.toInt64 * R)), .second, .val (.long ((H.toInt32.toInt64) * R)), .second, .val (.ref zd)] [(.ref a1)]))
  refine own_by (fun t kk_ => XS.lloadN X63.here hx rfl (hb hby d3_210) rfl  kk_) ?_
  show OwnG p e below s _ _ _ (T63.setTop (mkF m 211 #[.val (.ref a1), .val (.int (0 : Int32)), .val (.long R), .second, .val (.long (0 : Int64)), .second, .val (.long (H.toInt32.toInt64 * R)), .second, .val (.long ((H.toInt32.toInt64) * R)), .second, .val (.ref zd)] [(.long R), (.ref a1)]))
  obtain ⟨T75, h75, X75, e75, W75, st75⟩ := putF X63 hx hZ hown (host := "") (Or.inl (hw _ (List.mem_of_getElem? (i := 53) rfl))) Via.refl (rfl : T63.heap = T63.heap) f70 f64 (Or.inl (hw _ (List.mem_of_getElem? (i := 54) rfl))) (hw _ (List.mem_of_getElem? (i := 4) rfl)) (ty := .long) (by decide) rfl rfl (g := (mkF m 211 #[.val (.ref a1), .val (.int (0 : Int32)), .val (.long R), .second, .val (.long (0 : Int64)), .second, .val (.long (H.toInt32.toInt64 * R)), .second, .val (.long ((H.toInt32.toInt64) * R)), .second, .val (.ref zd)] [(.long R), (.ref a1)])) rfl rfl (hb hby d3_211)
  refine own_by (fun t kk_ => st75 _ kk_) ?_
  have f76 := Exa.wr W75 f64
  have f77 := Fld.other W75 f65 (Or.inr (slot_ne (Or.inl (hw _ (List.mem_of_getElem? (i := 14) rfl))) (Or.inl (hw _ (List.mem_of_getElem? (i := 54) rfl))) (by decide) (t := (.array .long)) (t' := .long) (by decide) (by decide)))
  have f78 := Fld.other W75 f66 (Or.inr (slot_ne (Or.inl (hw _ (List.mem_of_getElem? (i := 16) rfl))) (Or.inl (hw _ (List.mem_of_getElem? (i := 54) rfl))) (by decide) (t := (.array .long)) (t' := .long) (by decide) (by decide)))
  have f79 := Fld.other W75 f67 (Or.inr (slot_ne (Or.inr (hw _ (List.mem_of_getElem? (i := 18) rfl))) (Or.inl (hw _ (List.mem_of_getElem? (i := 54) rfl))) (by decide) (t := .long) (t' := .long) (by decide) (by decide)))
  have f80 := Fld.other W75 f68 (Or.inr (slot_ne (Or.inr (hw _ (List.mem_of_getElem? (i := 20) rfl))) (Or.inl (hw _ (List.mem_of_getElem? (i := 54) rfl))) (by decide) (t := .int) (t' := .long) (by decide) (by decide)))
  have f81 := Fld.other W75 f69 (Or.inr (slot_ne (Or.inl (hw _ (List.mem_of_getElem? (i := 34) rfl))) (Or.inl (hw _ (List.mem_of_getElem? (i := 54) rfl))) (by decide) (t := .int) (t' := .long) (by decide) (by decide)))
  have f83 := OwnA.other W75 f71 (Ne.symm nas)
  have f84 := OwnA.other W75 f72 (Ne.symm nae)
  have f85 := Sta.wr W75 f73
  have f86 := Sta.wr W75 f74
  have f87 := Fld.same W75 f70
  have N75 := Fr.snoc X75 N63 g1
  have sz75 : n0 ≤ h75.size := by rw [W75.size]; exact sz63
  show OwnG p e below s _ _ _ (T75.setTop (mkF m 214 #[.val (.ref a1), .val (.int (0 : Int32)), .val (.long R), .second, .val (.long (0 : Int64)), .second, .val (.long (H.toInt32.toInt64 * R)), .second, .val (.long ((H.toInt32.toInt64) * R)), .second, .val (.ref zd)] []))
  refine own_by (fun t kk_ => XS.aload X75.here hx rfl (hb hby d3_214) rfl rfl kk_) ?_
  show OwnG p e below s _ _ _ (T75.setTop (mkF m 216 #[.val (.ref a1), .val (.int (0 : Int32)), .val (.long R), .second, .val (.long (0 : Int64)), .second, .val (.long (H.toInt32.toInt64 * R)), .second, .val (.long ((H.toInt32.toInt64) * R)), .second, .val (.ref zd)] [(.ref zd)]))
  exact own_outA X75 hx rfl rfl hret hlk (hb hby d3_216) (by show _ ∧ _; rw [e75]; exact ⟨rfl, N75, ⟨f76, f77, f78, f79, f80, f81, f87, f83, f84⟩⟩) (by decide) (by decide)
theorem ef_3z (m : MethodId) (x0 : Addr) (x1 : Int32) (x2 : Int64) : entryFrame m #[(.ref x0), (.int x1), (.long x2)] 11 = mkF m 0 #[.val (.ref x0), .val (.int x1), .val (.long x2), .second, .unset, .unset, .unset, .unset, .unset, .unset, .unset] [] := by first | (simp [entryFrame, mkF, argsToLocals, Value.category]; done) | rfl
def Q3z (Z : State) (a1 sa ea zd : Addr) (R sp : Int64) (H : Nat) (h0 : Heap) (n0 : Nat) (v : Option Value) (h : Heap) (L : List Loc) : Prop := v = some .null ∧ Fr n0 L ∧ own_X Z h a1 sa ea R H.toInt32 0 R (fun _ => .long (0 : Int64)) (fun _ => .long (0 : Int64))
set_option maxRecDepth 65536 in
set_option maxHeartbeats 40000000 in
theorem rm3z (l : Launch) (Z : State) (a0 : Array Value) (hw : ∀ d ∈ tables_1, d.before a0 Z = true) (ws : List Jvm.Cond) (a1 sa ea zd : Addr) (R sp : Int64) (H : Nat) (h0 : Heap) (n0 : Nat) (Z0 : n0 ≤ h0.size) (Ob : own_X Z h0 a1 sa ea R H.toInt32 0 0 (fun _ => .long (0 : Int64)) (fun _ => .long (0 : Int64))) (SZ : Sta Z h0 "java/time/Duration" "ZERO" "Ljava/time/Duration;" (.ref zd)) (SP : Sta Z h0 "com/example/gasholder/gasholder/Execution" "SECONDS_PER_HOUR" "J" (.long sp)) (nas : a1 ≠ sa) (nae : a1 ≠ ea) (nse : sa ≠ ea) (g1 : n0 ≤ a1) (g2 : n0 ≤ sa) (g3 : n0 ≤ ea) (hB : ownB R) (hH1 : 1 ≤ H) (hH : H ≤ 25) (hE0 : ¬ (0 : Int64) < (H.toInt32.toInt64 * R)) :
    MetFree l (⟨"com/example/gasholder/gasholder/Execution", "schedule", "(IJ)Ljava/time/Duration;"⟩ : MethodName) (head1 (Jvm.Cond.code (⟨"com/example/gasholder/gasholder/Execution", "schedule", "(IJ)Ljava/time/Duration;"⟩ : MethodName) prog_8_method_6_code 11 (some (.object "java/time/Duration")) :: ws) ({ frames := 1, cells := 0, slots := 0, locals := 20 } : Room)) (fun aa_ U => aa_ = #[(.ref a1), (.int (0 : Int32)), (.long R)] ∧ Z.Warmed39 U.vm ∧ U.heap = h0) (fun _ _ _ _ _ => True) (fun _ U o U' => ∃ v L, o = .returned v ∧ Q3z Z a1 sa ea zd R sp H h0 n0 v U'.heap L ∧ FrameEnd U o U' L ({ frames := 1, cells := 0, slots := 0, locals := 20 } : Room).cells ({ frames := 1, cells := 0, slots := 0, locals := 20 } : Room).slots) := by
  refine own_met (Q := fun v h L => Q3z Z a1 sa ea zd R sp H h0 n0 v h L) (plainFor_of_name pn_2) ?_
  intro p e s m below meth c s₁ hx hby hml hret hlk hown hnm hZ X0 e0
  have N0 := Fr.nil n0
  rw [ef_3z m a1 (0 : Int32) R]
  show OwnG p e below s _ _ _ (s₁.setTop (mkF m 0 #[.val (.ref a1), .val (.int (0 : Int32)), .val (.long R), .second, .unset, .unset, .unset, .unset, .unset, .unset, .unset] []))
  refine own_by (fun t kk_ => XS.iloadN X0.here hx rfl (hb hby d3_0) rfl  kk_) ?_
  show OwnG p e below s _ _ _ (s₁.setTop (mkF m 1 #[.val (.ref a1), .val (.int (0 : Int32)), .val (.long R), .second, .unset, .unset, .unset, .unset, .unset, .unset, .unset] [(.int (0 : Int32))]))
  refine own_by (fun t kk_ => XS.i2l X0.here hx rfl (hb hby d3_1) rfl kk_) ?_
  show OwnG p e below s _ _ _ (s₁.setTop (mkF m 2 #[.val (.ref a1), .val (.int (0 : Int32)), .val (.long R), .second, .unset, .unset, .unset, .unset, .unset, .unset, .unset] [(.long ((0 : Int32).toInt64))]))
  refine own_by (fun t kk_ => XS.aloadN X0.here hx rfl (hb hby d3_2) rfl rfl kk_) ?_
  show OwnG p e below s _ _ _ (s₁.setTop (mkF m 3 #[.val (.ref a1), .val (.int (0 : Int32)), .val (.long R), .second, .unset, .unset, .unset, .unset, .unset, .unset, .unset] [(.ref a1), (.long ((0 : Int32).toInt64))]))
  obtain ⟨T1, X1, e1, st1⟩ := getF X0 hx hZ hown (host := "") (Or.inl (hw _ (List.mem_of_getElem? (i := 17) rfl))) Via.refl e0 Ob.2.2.2.1 (g := (mkF m 3 #[.val (.ref a1), .val (.int (0 : Int32)), .val (.long R), .second, .unset, .unset, .unset, .unset, .unset, .unset, .unset] [(.ref a1), (.long ((0 : Int32).toInt64))])) rfl rfl (hb hby d3_3)
  refine own_by (fun t kk_ => st1 _ kk_) ?_
  show OwnG p e below s _ _ _ (T1.setTop (mkF m 6 #[.val (.ref a1), .val (.int (0 : Int32)), .val (.long R), .second, .unset, .unset, .unset, .unset, .unset, .unset, .unset] [(.long R), (.long ((0 : Int32).toInt64))]))
  refine own_by (fun t kk_ => XS.lmul X1.here hx rfl (hb hby d3_6) rfl kk_) ?_
  show OwnG p e below s _ _ _ (T1.setTop (mkF m 7 #[.val (.ref a1), .val (.int (0 : Int32)), .val (.long R), .second, .unset, .unset, .unset, .unset, .unset, .unset, .unset] [(.long (((0 : Int32).toInt64) * R))]))
  rw [own_0R R]
  show OwnG p e below s _ _ _ (T1.setTop (mkF m 7 #[.val (.ref a1), .val (.int (0 : Int32)), .val (.long R), .second, .unset, .unset, .unset, .unset, .unset, .unset, .unset] [(.long (0 : Int64))]))
  refine own_by (fun t kk_ => XS.lstore X1.here hx rfl (hb hby d3_7) rfl (l' := #[.val (.ref a1), .val (.int (0 : Int32)), .val (.long R), .second, .val (.long (0 : Int64)), .second, .unset, .unset, .unset, .unset, .unset]) rfl kk_) ?_
  show OwnG p e below s _ _ _ (T1.setTop (mkF m 9 #[.val (.ref a1), .val (.int (0 : Int32)), .val (.long R), .second, .val (.long (0 : Int64)), .second, .unset, .unset, .unset, .unset, .unset] []))
  refine own_by (fun t kk_ => XS.lloadN X1.here hx rfl (hb hby d3_9) rfl  kk_) ?_
  show OwnG p e below s _ _ _ (T1.setTop (mkF m 10 #[.val (.ref a1), .val (.int (0 : Int32)), .val (.long R), .second, .val (.long (0 : Int64)), .second, .unset, .unset, .unset, .unset, .unset] [(.long R)]))
  refine own_by (fun t kk_ => XS.aloadN X1.here hx rfl (hb hby d3_10) rfl rfl kk_) ?_
  show OwnG p e below s _ _ _ (T1.setTop (mkF m 11 #[.val (.ref a1), .val (.int (0 : Int32)), .val (.long R), .second, .val (.long (0 : Int64)), .second, .unset, .unset, .unset, .unset, .unset] [(.ref a1), (.long R)]))
  obtain ⟨T2, X2, e2, st2⟩ := getF X1 hx hZ hown (host := "") (Or.inl (hw _ (List.mem_of_getElem? (i := 19) rfl))) Via.refl e1 Ob.2.2.2.2.1 (g := (mkF m 11 #[.val (.ref a1), .val (.int (0 : Int32)), .val (.long R), .second, .val (.long (0 : Int64)), .second, .unset, .unset, .unset, .unset, .unset] [(.ref a1), (.long R)])) rfl rfl (hb hby d3_11)
  refine own_by (fun t kk_ => st2 _ kk_) ?_
  show OwnG p e below s _ _ _ (T2.setTop (mkF m 14 #[.val (.ref a1), .val (.int (0 : Int32)), .val (.long R), .second, .val (.long (0 : Int64)), .second, .unset, .unset, .unset, .unset, .unset] [(.int H.toInt32), (.long R)]))
  refine own_by (fun t kk_ => XS.i2l X2.here hx rfl (hb hby d3_14) rfl kk_) ?_
  show OwnG p e below s _ _ _ (T2.setTop (mkF m 15 #[.val (.ref a1), .val (.int (0 : Int32)), .val (.long R), .second, .val (.long (0 : Int64)), .second, .unset, .unset, .unset, .unset, .unset] [(.long (H.toInt32.toInt64)), (.long R)]))
  refine own_by (fun t kk_ => XS.lmul X2.here hx rfl (hb hby d3_15) rfl kk_) ?_
  show OwnG p e below s _ _ _ (T2.setTop (mkF m 16 #[.val (.ref a1), .val (.int (0 : Int32)), .val (.long R), .second, .val (.long (0 : Int64)), .second, .unset, .unset, .unset, .unset, .unset] [(.long (R * (H.toInt32.toInt64)))]))
  refine own_by (fun t kk_ => XS.aloadN X2.here hx rfl (hb hby d3_16) rfl rfl kk_) ?_
  show OwnG p e below s _ _ _ (T2.setTop (mkF m 17 #[.val (.ref a1), .val (.int (0 : Int32)), .val (.long R), .second, .val (.long (0 : Int64)), .second, .unset, .unset, .unset, .unset, .unset] [(.ref a1), (.long (R * (H.toInt32.toInt64)))]))
  refine own_by (fun t kk_ => XS.iloadN X2.here hx rfl (hb hby d3_17) rfl  kk_) ?_
  show OwnG p e below s _ _ _ (T2.setTop (mkF m 18 #[.val (.ref a1), .val (.int (0 : Int32)), .val (.long R), .second, .val (.long (0 : Int64)), .second, .unset, .unset, .unset, .unset, .unset] [(.int (0 : Int32)), (.ref a1), (.long (R * (H.toInt32.toInt64)))]))
  obtain ⟨cq3, kq3, q3a, q3b, q3c⟩ := isOf hZ e2 Ob.1
  obtain ⟨_, _, ⟨T3, L3, k3, n3⟩, -, X3, ⟨Lc3, hQ3, l3, y3, z3⟩, st3⟩ := X2.virtualBack hx (y := (⟨"com/example/gasholder/gasholder/Execution", "flowedBy", "(I)J"⟩ : MethodName)) (z := (⟨"com/example/gasholder/gasholder/Execution", "flowedBy", "(I)J"⟩ : MethodName)) hown (mvT hZ (hw _ (List.mem_of_getElem? (i := 28) rfl))) (mvT hZ (hw _ (List.mem_of_getElem? (i := 29) rfl))) (notFace_of_selects (args := #[]) (mvT hZ (hw _ (List.mem_of_getElem? (i := 31) rfl)))) (mvT hZ (hw _ (List.mem_of_getElem? (i := 31) rfl))) (mvT hZ (hw _ (List.mem_of_getElem? (i := 30) rfl))) (by decide) (backOf (W := 2) (rm4z l Z a0 hw [] a1 sa ea R H 0 0 (fun _ => .long (0 : Int64)) (fun _ => .long (0 : Int64)) h0 n0 Z0 Ob) hZ (hw _ (List.mem_of_getElem? (i := 32) rfl)) (hw _ (List.mem_of_getElem? (i := 5) rfl)) (by decide) (by decide)) q3a q3c (g := (mkF m 18 #[.val (.ref a1), .val (.int (0 : Int32)), .val (.long R), .second, .val (.long (0 : Int64)), .second, .unset, .unset, .unset, .unset, .unset] [(.int (0 : Int32)), (.ref a1), (.long (R * (H.toInt32.toInt64)))])) rfl (by rw [hml]; rfl) (Steps.refl _) (argsL := [(.int (0 : Int32))]) (rest := [(.long (R * (H.toInt32.toInt64)))]) (lenOf pd_4 rfl) rfl (by show 2 * 0 + _ ≤ _; exact Nat.le_of_eq rfl) (hb hby d3_18) (fun _ _ => ⟨rfl, e2, (by decide : 0 + 0 ≤ _), (by decide : 0 + 0 ≤ _)⟩)
  dsimp only [Pt.U, Pt.locs, Pt.cells, Pt.slots] at X3 l3 y3 z3 st3 hQ3
  subst l3 y3 z3
  refine own_by (fun t kk_ => st3.trans kk_) ?_
  obtain ⟨rfl, N3q, hh3⟩ := hQ3
  have N3 := Fr.app N0 N3q
  have eh3 : T3.heap = h0 := hh3.trans rfl
  have f4 := Ob.1
  rw [← hh3] at f4
  have f5 := Ob.2.1
  rw [← hh3] at f5
  have f6 := Ob.2.2.1
  rw [← hh3] at f6
  have f7 := Ob.2.2.2.1
  rw [← hh3] at f7
  have f8 := Ob.2.2.2.2.1
  rw [← hh3] at f8
  have f9 := Ob.2.2.2.2.2.1
  rw [← hh3] at f9
  have f10 := Ob.2.2.2.2.2.2.1
  rw [← hh3] at f10
  have f11 := Ob.2.2.2.2.2.2.2.1
  rw [← hh3] at f11
  have f12 := Ob.2.2.2.2.2.2.2.2
  rw [← hh3] at f12
  have f13 := SZ
  rw [← hh3] at f13
  have f14 := SP
  rw [← hh3] at f14
  have sz3 : n0 ≤ T3.heap.size := by rw [hh3]; exact Z0
  show OwnG p e below s _ _ _ (T3.setTop (mkF m 21 #[.val (.ref a1), .val (.int (0 : Int32)), .val (.long R), .second, .val (.long (0 : Int64)), .second, .unset, .unset, .unset, .unset, .unset] [(.long (0 : Int64)), (.long (R * (H.toInt32.toInt64)))]))
  refine own_by (fun t kk_ => XS.lsub X3.here hx rfl (hb hby d3_21) rfl kk_) ?_
  show OwnG p e below s _ _ _ (T3.setTop (mkF m 22 #[.val (.ref a1), .val (.int (0 : Int32)), .val (.long R), .second, .val (.long (0 : Int64)), .second, .unset, .unset, .unset, .unset, .unset] [(.long ((R * (H.toInt32.toInt64)) - (0 : Int64)))]))
  rw [own_restE R _]
  show OwnG p e below s _ _ _ (T3.setTop (mkF m 22 #[.val (.ref a1), .val (.int (0 : Int32)), .val (.long R), .second, .val (.long (0 : Int64)), .second, .unset, .unset, .unset, .unset, .unset] [(.long (H.toInt32.toInt64 * R))]))
  refine own_by (fun t kk_ => XS.lstore X3.here hx rfl (hb hby d3_22) rfl (l' := #[.val (.ref a1), .val (.int (0 : Int32)), .val (.long R), .second, .val (.long (0 : Int64)), .second, .val (.long (H.toInt32.toInt64 * R)), .second, .unset, .unset, .unset]) rfl kk_) ?_
  show OwnG p e below s _ _ _ (T3.setTop (mkF m 24 #[.val (.ref a1), .val (.int (0 : Int32)), .val (.long R), .second, .val (.long (0 : Int64)), .second, .val (.long (H.toInt32.toInt64 * R)), .second, .unset, .unset, .unset] []))
  refine own_by (fun t kk_ => XS.aloadN X3.here hx rfl (hb hby d3_24) rfl rfl kk_) ?_
  show OwnG p e below s _ _ _ (T3.setTop (mkF m 25 #[.val (.ref a1), .val (.int (0 : Int32)), .val (.long R), .second, .val (.long (0 : Int64)), .second, .val (.long (H.toInt32.toInt64 * R)), .second, .unset, .unset, .unset] [(.ref a1)]))
  obtain ⟨T15, X15, e15, st15⟩ := getF X3 hx hZ hown (host := "") (Or.inl (hw _ (List.mem_of_getElem? (i := 33) rfl))) Via.refl (rfl : T3.heap = T3.heap) f9 (g := (mkF m 25 #[.val (.ref a1), .val (.int (0 : Int32)), .val (.long R), .second, .val (.long (0 : Int64)), .second, .val (.long (H.toInt32.toInt64 * R)), .second, .unset, .unset, .unset] [(.ref a1)])) rfl rfl (hb hby d3_25)
  refine own_by (fun t kk_ => st15 _ kk_) ?_
  show OwnG p e below s _ _ _ (T15.setTop (mkF m 28 #[.val (.ref a1), .val (.int (0 : Int32)), .val (.long R), .second, .val (.long (0 : Int64)), .second, .val (.long (H.toInt32.toInt64 * R)), .second, .unset, .unset, .unset] [(.int (0 : Int32))]))
  refine own_by (fun t kk_ => XS.ifYes X15.here hx rfl (pc0 := 28) (pc' := 61) rfl (hb hby d3_28) rfl ((if0 _ _).trans (flt (by decide)).2.2.2) (by decide) (by decide) kk_) ?_
  show OwnG p e below s _ _ _ (T15.setTop (mkF m 61 #[.val (.ref a1), .val (.int (0 : Int32)), .val (.long R), .second, .val (.long (0 : Int64)), .second, .val (.long (H.toInt32.toInt64 * R)), .second, .unset, .unset, .unset] []))
  refine own_by (fun t kk_ => XS.aloadN X15.here hx rfl (hb hby d3_61) rfl rfl kk_) ?_
  show OwnG p e below s _ _ _ (T15.setTop (mkF m 62 #[.val (.ref a1), .val (.int (0 : Int32)), .val (.long R), .second, .val (.long (0 : Int64)), .second, .val (.long (H.toInt32.toInt64 * R)), .second, .unset, .unset, .unset] [(.ref a1)]))
  obtain ⟨T16, X16, e16, st16⟩ := getF X15 hx hZ hown (host := "") (Or.inl (hw _ (List.mem_of_getElem? (i := 33) rfl))) Via.refl e15 f9 (g := (mkF m 62 #[.val (.ref a1), .val (.int (0 : Int32)), .val (.long R), .second, .val (.long (0 : Int64)), .second, .val (.long (H.toInt32.toInt64 * R)), .second, .unset, .unset, .unset] [(.ref a1)])) rfl rfl (hb hby d3_62)
  refine own_by (fun t kk_ => st16 _ kk_) ?_
  show OwnG p e below s _ _ _ (T16.setTop (mkF m 65 #[.val (.ref a1), .val (.int (0 : Int32)), .val (.long R), .second, .val (.long (0 : Int64)), .second, .val (.long (H.toInt32.toInt64 * R)), .second, .unset, .unset, .unset] [(.int (0 : Int32))]))
  refine own_by (fun t kk_ => XS.ifYes X16.here hx rfl (pc0 := 65) (pc' := 95) rfl (hb hby d3_65) rfl ((if0 _ _).trans (flt (by decide)).2.2.2) (by decide) (by decide) kk_) ?_
  show OwnG p e below s _ _ _ (T16.setTop (mkF m 95 #[.val (.ref a1), .val (.int (0 : Int32)), .val (.long R), .second, .val (.long (0 : Int64)), .second, .val (.long (H.toInt32.toInt64 * R)), .second, .unset, .unset, .unset] []))
  refine own_by (fun t kk_ => XS.aloadN X16.here hx rfl (hb hby d3_95) rfl rfl kk_) ?_
  show OwnG p e below s _ _ _ (T16.setTop (mkF m 96 #[.val (.ref a1), .val (.int (0 : Int32)), .val (.long R), .second, .val (.long (0 : Int64)), .second, .val (.long (H.toInt32.toInt64 * R)), .second, .unset, .unset, .unset] [(.ref a1)]))
  obtain ⟨T17, X17, e17, st17⟩ := getF X16 hx hZ hown (host := "") (Or.inl (hw _ (List.mem_of_getElem? (i := 19) rfl))) Via.refl e16 f8 (g := (mkF m 96 #[.val (.ref a1), .val (.int (0 : Int32)), .val (.long R), .second, .val (.long (0 : Int64)), .second, .val (.long (H.toInt32.toInt64 * R)), .second, .unset, .unset, .unset] [(.ref a1)])) rfl rfl (hb hby d3_96)
  refine own_by (fun t kk_ => st17 _ kk_) ?_
  show OwnG p e below s _ _ _ (T17.setTop (mkF m 99 #[.val (.ref a1), .val (.int (0 : Int32)), .val (.long R), .second, .val (.long (0 : Int64)), .second, .val (.long (H.toInt32.toInt64 * R)), .second, .unset, .unset, .unset] [(.int H.toInt32)]))
  refine own_by (fun t kk_ => XS.i2l X17.here hx rfl (hb hby d3_99) rfl kk_) ?_
  show OwnG p e below s _ _ _ (T17.setTop (mkF m 100 #[.val (.ref a1), .val (.int (0 : Int32)), .val (.long R), .second, .val (.long (0 : Int64)), .second, .val (.long (H.toInt32.toInt64 * R)), .second, .unset, .unset, .unset] [(.long (H.toInt32.toInt64))]))
  refine own_by (fun t kk_ => XS.aloadN X17.here hx rfl (hb hby d3_100) rfl rfl kk_) ?_
  show OwnG p e below s _ _ _ (T17.setTop (mkF m 101 #[.val (.ref a1), .val (.int (0 : Int32)), .val (.long R), .second, .val (.long (0 : Int64)), .second, .val (.long (H.toInt32.toInt64 * R)), .second, .unset, .unset, .unset] [(.ref a1), (.long (H.toInt32.toInt64))]))
  obtain ⟨T18, X18, e18, st18⟩ := getF X17 hx hZ hown (host := "") (Or.inl (hw _ (List.mem_of_getElem? (i := 17) rfl))) Via.refl e17 f7 (g := (mkF m 101 #[.val (.ref a1), .val (.int (0 : Int32)), .val (.long R), .second, .val (.long (0 : Int64)), .second, .val (.long (H.toInt32.toInt64 * R)), .second, .unset, .unset, .unset] [(.ref a1), (.long (H.toInt32.toInt64))])) rfl rfl (hb hby d3_101)
  refine own_by (fun t kk_ => st18 _ kk_) ?_
  show OwnG p e below s _ _ _ (T18.setTop (mkF m 104 #[.val (.ref a1), .val (.int (0 : Int32)), .val (.long R), .second, .val (.long (0 : Int64)), .second, .val (.long (H.toInt32.toInt64 * R)), .second, .unset, .unset, .unset] [(.long R), (.long (H.toInt32.toInt64))]))
  refine own_by (fun t kk_ => XS.lmul X18.here hx rfl (hb hby d3_104) rfl kk_) ?_
  show OwnG p e below s _ _ _ (T18.setTop (mkF m 105 #[.val (.ref a1), .val (.int (0 : Int32)), .val (.long R), .second, .val (.long (0 : Int64)), .second, .val (.long (H.toInt32.toInt64 * R)), .second, .unset, .unset, .unset] [(.long ((H.toInt32.toInt64) * R))]))
  refine own_by (fun t kk_ => XS.lstore X18.here hx rfl (hb hby d3_105) rfl (l' := #[.val (.ref a1), .val (.int (0 : Int32)), .val (.long R), .second, .val (.long (0 : Int64)), .second, .val (.long (H.toInt32.toInt64 * R)), .second, .val (.long ((H.toInt32.toInt64) * R)), .second, .unset]) rfl kk_) ?_
  show OwnG p e below s _ _ _ (T18.setTop (mkF m 107 #[.val (.ref a1), .val (.int (0 : Int32)), .val (.long R), .second, .val (.long (0 : Int64)), .second, .val (.long (H.toInt32.toInt64 * R)), .second, .val (.long ((H.toInt32.toInt64) * R)), .second, .unset] []))
  refine own_by (fun t kk_ => XS.aconstNull X18.here hx rfl (hb hby d3_107) kk_) ?_
  show OwnG p e below s _ _ _ (T18.setTop (mkF m 108 #[.val (.ref a1), .val (.int (0 : Int32)), .val (.long R), .second, .val (.long (0 : Int64)), .second, .val (.long (H.toInt32.toInt64 * R)), .second, .val (.long ((H.toInt32.toInt64) * R)), .second, .unset] [.null]))
  refine own_by (fun t kk_ => XS.astore X18.here hx rfl (hb hby d3_108) rfl rfl (l' := #[.val (.ref a1), .val (.int (0 : Int32)), .val (.long R), .second, .val (.long (0 : Int64)), .second, .val (.long (H.toInt32.toInt64 * R)), .second, .val (.long ((H.toInt32.toInt64) * R)), .second, .val .null]) rfl kk_) ?_
  show OwnG p e below s _ _ _ (T18.setTop (mkF m 110 #[.val (.ref a1), .val (.int (0 : Int32)), .val (.long R), .second, .val (.long (0 : Int64)), .second, .val (.long (H.toInt32.toInt64 * R)), .second, .val (.long ((H.toInt32.toInt64) * R)), .second, .val .null] []))
  refine own_by (fun t kk_ => XS.lload X18.here hx rfl (hb hby d3_110) rfl  kk_) ?_
  show OwnG p e below s _ _ _ (T18.setTop (mkF m 112 #[.val (.ref a1), .val (.int (0 : Int32)), .val (.long R), .second, .val (.long (0 : Int64)), .second, .val (.long (H.toInt32.toInt64 * R)), .second, .val (.long ((H.toInt32.toInt64) * R)), .second, .val .null] [(.long (H.toInt32.toInt64 * R))]))
  refine own_by (fun t kk_ => XS.lconst X18.here hx rfl (hb hby d3_112) kk_) ?_
  show OwnG p e below s _ _ _ (T18.setTop (mkF m 113 #[.val (.ref a1), .val (.int (0 : Int32)), .val (.long R), .second, .val (.long (0 : Int64)), .second, .val (.long (H.toInt32.toInt64 * R)), .second, .val (.long ((H.toInt32.toInt64) * R)), .second, .val .null] [(.long (0 : Int64)), (.long (H.toInt32.toInt64 * R))]))
  refine own_by (fun t kk_ => XS.lcmp X18.here hx rfl (hb hby d3_113) rfl kk_) ?_
  show OwnG p e below s _ _ _ (T18.setTop (mkF m 114 #[.val (.ref a1), .val (.int (0 : Int32)), .val (.long R), .second, .val (.long (0 : Int64)), .second, .val (.long (H.toInt32.toInt64 * R)), .second, .val (.long ((H.toInt32.toInt64) * R)), .second, .val .null] [(.int (lcmpW (H.toInt32.toInt64 * R) (0 : Int64)))]))
  refine own_by (fun t kk_ => XS.ifYes X18.here hx rfl (pc0 := 114) (pc' := 209) rfl (hb hby d3_114) rfl ((if0 _ _).trans (flt (fun q => hE0 ((lw_gt _ _).mp q))).2.2.2) (by decide) (by decide) kk_) ?_
  show OwnG p e below s _ _ _ (T18.setTop (mkF m 209 #[.val (.ref a1), .val (.int (0 : Int32)), .val (.long R), .second, .val (.long (0 : Int64)), .second, .val (.long (H.toInt32.toInt64 * R)), .second, .val (.long ((H.toInt32.toInt64) * R)), .second, .val .null] []))
  refine own_by (fun t kk_ => XS.aloadN X18.here hx rfl (hb hby d3_209) rfl rfl kk_) ?_
  show OwnG p e below s _ _ _ (T18.setTop (mkF m 210 #[.val (.ref a1), .val (.int (0 : Int32)), .val (.long R), .second, .val (.long (0 : Int64)), .second, .val (.long (H.toInt32.toInt64 * R)), .second, .val (.long ((H.toInt32.toInt64) * R)), .second, .val .null] [(.ref a1)]))
  refine own_by (fun t kk_ => XS.lloadN X18.here hx rfl (hb hby d3_210) rfl  kk_) ?_
  show OwnG p e below s _ _ _ (T18.setTop (mkF m 211 #[.val (.ref a1), .val (.int (0 : Int32)), .val (.long R), .second, .val (.long (0 : Int64)), .second, .val (.long (H.toInt32.toInt64 * R)), .second, .val (.long ((H.toInt32.toInt64) * R)), .second, .val .null] [(.long R), (.ref a1)]))
  obtain ⟨T19, h19, X19, e19, W19, st19⟩ := putF X18 hx hZ hown (host := "") (Or.inl (hw _ (List.mem_of_getElem? (i := 53) rfl))) Via.refl e18 f10 f4 (Or.inl (hw _ (List.mem_of_getElem? (i := 54) rfl))) (hw _ (List.mem_of_getElem? (i := 4) rfl)) (ty := .long) (by decide) rfl rfl (g := (mkF m 211 #[.val (.ref a1), .val (.int (0 : Int32)), .val (.long R), .second, .val (.long (0 : Int64)), .second, .val (.long (H.toInt32.toInt64 * R)), .second, .val (.long ((H.toInt32.toInt64) * R)), .second, .val .null] [(.long R), (.ref a1)])) rfl rfl (hb hby d3_211)
  refine own_by (fun t kk_ => st19 _ kk_) ?_
  have f20 := Exa.wr W19 f4
  have f21 := Fld.other W19 f5 (Or.inr (slot_ne (Or.inl (hw _ (List.mem_of_getElem? (i := 14) rfl))) (Or.inl (hw _ (List.mem_of_getElem? (i := 54) rfl))) (by decide) (t := (.array .long)) (t' := .long) (by decide) (by decide)))
  have f22 := Fld.other W19 f6 (Or.inr (slot_ne (Or.inl (hw _ (List.mem_of_getElem? (i := 16) rfl))) (Or.inl (hw _ (List.mem_of_getElem? (i := 54) rfl))) (by decide) (t := (.array .long)) (t' := .long) (by decide) (by decide)))
  have f23 := Fld.other W19 f7 (Or.inr (slot_ne (Or.inr (hw _ (List.mem_of_getElem? (i := 18) rfl))) (Or.inl (hw _ (List.mem_of_getElem? (i := 54) rfl))) (by decide) (t := .long) (t' := .long) (by decide) (by decide)))
  have f24 := Fld.other W19 f8 (Or.inr (slot_ne (Or.inr (hw _ (List.mem_of_getElem? (i := 20) rfl))) (Or.inl (hw _ (List.mem_of_getElem? (i := 54) rfl))) (by decide) (t := .int) (t' := .long) (by decide) (by decide)))
  have f25 := Fld.other W19 f9 (Or.inr (slot_ne (Or.inl (hw _ (List.mem_of_getElem? (i := 34) rfl))) (Or.inl (hw _ (List.mem_of_getElem? (i := 54) rfl))) (by decide) (t := .int) (t' := .long) (by decide) (by decide)))
  have f27 := OwnA.other W19 f11 (Ne.symm nas)
  have f28 := OwnA.other W19 f12 (Ne.symm nae)
  have f29 := Sta.wr W19 f13
  have f30 := Sta.wr W19 f14
  have f31 := Fld.same W19 f10
  have N19 := Fr.snoc X19 N3 g1
  have sz19 : n0 ≤ h19.size := by rw [W19.size]; exact sz3
  show OwnG p e below s _ _ _ (T19.setTop (mkF m 214 #[.val (.ref a1), .val (.int (0 : Int32)), .val (.long R), .second, .val (.long (0 : Int64)), .second, .val (.long (H.toInt32.toInt64 * R)), .second, .val (.long ((H.toInt32.toInt64) * R)), .second, .val .null] []))
  refine own_by (fun t kk_ => XS.aload X19.here hx rfl (hb hby d3_214) rfl rfl kk_) ?_
  show OwnG p e below s _ _ _ (T19.setTop (mkF m 216 #[.val (.ref a1), .val (.int (0 : Int32)), .val (.long R), .second, .val (.long (0 : Int64)), .second, .val (.long (H.toInt32.toInt64 * R)), .second, .val (.long ((H.toInt32.toInt64) * R)), .second, .val .null] [.null]))
  exact own_outA X19 hx rfl rfl hret hlk (hb hby d3_216) (by show _ ∧ _; rw [e19]; exact ⟨rfl, N19, ⟨f20, f21, f22, f23, f24, f25, f31, f27, f28⟩⟩) (by decide) (by decide)
theorem own_nzH {H : Nat} (h : H ≤ 25) : H.toInt32 + 1 ≠ 0 := by rw [show H.toInt32 + 1 = H.toInt32 + (1 : Nat).toInt32 from rfl, own_addN]; exact own_nzN (by omega) (by omega)
theorem pn_3 : plainName "com/example/gasholder/gasholder/ExecutionMayStillFlowFromPinLaw" = true := by first | (simp [plainName, overriddenIn]; done) | decide +kernel
theorem pd_5 : parseMethodDescriptor "(JII)V" = some ⟨[.long, .int, .int], none⟩ := by decide +kernel
theorem pd_6 : parseMethodDescriptor "(IJ)Ljava/time/Duration;" = some ⟨[.int, .long], some (.object "java/time/Duration")⟩ := by decide +kernel
theorem pd_7 : parseMethodDescriptor "()J" = some ⟨[], some .long⟩ := by decide +kernel
theorem ef_0 (m : MethodId) (x0 : Int32) (x1 : Int32) (x2 : Int64) : entryFrame m #[(.int x0), (.int x1), (.long x2)] maxLocals = mkF m 0 #[.val (.int x0), .val (.int x1), .val (.long x2), .second, .unset, .unset, .unset, .unset, .unset, .unset, .unset, .unset, .unset, .unset, .unset, .unset, .unset] [] := by first | (simp [entryFrame, mkF, argsToLocals, Value.category, maxLocals]; done) | rfl
def Q0 (Z : State) (a b : Int32) (r sp : Int64) (zd : Addr) (h0 : Heap) (n0 : Nat) (v : Option Value) (h : Heap) (L : List Loc) : Prop := v = some (.int (1 : Int32)) ∧ Fr n0 L
set_option maxRecDepth 65536 in
set_option maxHeartbeats 40000000 in
theorem rm0 (l : Launch) (Z : State) (a0 : Array Value) (hw : ∀ d ∈ tables_1, d.before a0 Z = true) (ws : List Jvm.Cond) (a b : Int32) (r sp : Int64) (zd : Addr) (h0 : Heap) (n0 : Nat) (Z0 : n0 ≤ h0.size) (SZ : Sta Z h0 "java/time/Duration" "ZERO" "Ljava/time/Duration;" (.ref zd)) (SP : Sta Z h0 "com/example/gasholder/gasholder/Execution" "SECONDS_PER_HOUR" "J" (.long sp)) :
    MetFree l x (head1 (Jvm.Cond.code x code maxLocals ret :: ws) room_1) (fun aa_ U => aa_ = #[(.int a), (.int b), (.long r)] ∧ Z.Warmed39 U.vm ∧ U.heap = h0) (fun _ _ _ _ _ => True) (fun _ U o U' => ∃ v L, o = .returned v ∧ Q0 Z a b r sp zd h0 n0 v U'.heap L ∧ FrameEnd U o U' L room_1.cells room_1.slots) := by
  refine own_met (Q := fun v h L => Q0 Z a b r sp zd h0 n0 v h L) (plainFor_of_name pn_3) ?_
  intro p e s m below meth c s₁ hx hby hml hret hlk hown hnm hZ X0 e0
  have N0 := Fr.nil n0
  rw [ef_0 m a b r]
  show OwnG p e below s _ _ _ (s₁.setTop (mkF m 0 #[.val (.int a), .val (.int b), .val (.long r), .second, .unset, .unset, .unset, .unset, .unset, .unset, .unset, .unset, .unset, .unset, .unset, .unset, .unset] []))
  refine own_by (fun t kk_ => XS.iconst X0.here hx rfl (hb hby at_0) kk_) ?_
  show OwnG p e below s _ _ _ (s₁.setTop (mkF m 1 #[.val (.int a), .val (.int b), .val (.long r), .second, .unset, .unset, .unset, .unset, .unset, .unset, .unset, .unset, .unset, .unset, .unset, .unset, .unset] [(.int (1 : Int32))]))
  refine own_by (fun t kk_ => XS.iloadN X0.here hx rfl (hb hby at_1) rfl  kk_) ?_
  show OwnG p e below s _ _ _ (s₁.setTop (mkF m 2 #[.val (.int a), .val (.int b), .val (.long r), .second, .unset, .unset, .unset, .unset, .unset, .unset, .unset, .unset, .unset, .unset, .unset, .unset, .unset] [(.int a), (.int (1 : Int32))]))
  refine own_by (fun t kk_ => X0.ldcInt hx hown (mvT hZ (hw _ (List.mem_of_getElem? (i := 0) rfl))) (g := (mkF m 2 #[.val (.int a), .val (.int b), .val (.long r), .second, .unset, .unset, .unset, .unset, .unset, .unset, .unset, .unset, .unset, .unset, .unset, .unset, .unset] [(.int a), (.int (1 : Int32))])) rfl (hb hby at_2) _ kk_) ?_
  show OwnG p e below s _ _ _ (s₁.setTop (mkF m 4 #[.val (.int a), .val (.int b), .val (.long r), .second, .unset, .unset, .unset, .unset, .unset, .unset, .unset, .unset, .unset, .unset, .unset, .unset, .unset] [(.int (2147483647 : Int32)), (.int a), (.int (1 : Int32))]))
  refine own_by (fun t kk_ => XS.iand X0.here hx rfl (hb hby at_4) rfl kk_) ?_
  show OwnG p e below s _ _ _ (s₁.setTop (mkF m 5 #[.val (.int a), .val (.int b), .val (.long r), .second, .unset, .unset, .unset, .unset, .unset, .unset, .unset, .unset, .unset, .unset, .unset, .unset, .unset] [(.int (a &&& (2147483647 : Int32))), (.int (1 : Int32))]))
  refine own_by (fun t kk_ => XS.bipush X0.here hx rfl (hb hby at_5) kk_) ?_
  show OwnG p e below s _ _ _ (s₁.setTop (mkF m 7 #[.val (.int a), .val (.int b), .val (.long r), .second, .unset, .unset, .unset, .unset, .unset, .unset, .unset, .unset, .unset, .unset, .unset, .unset, .unset] [(.int (25 : Int32)), (.int (a &&& (2147483647 : Int32))), (.int (1 : Int32))]))
  refine own_by (fun t kk_ => XS.irem X0.here hx rfl (hb hby at_7) rfl (by decide) kk_) ?_
  show OwnG p e below s _ _ _ (s₁.setTop (mkF m 8 #[.val (.int a), .val (.int b), .val (.long r), .second, .unset, .unset, .unset, .unset, .unset, .unset, .unset, .unset, .unset, .unset, .unset, .unset, .unset] [(.int ((a &&& (2147483647 : Int32)) - ((a &&& (2147483647 : Int32)) / (25 : Int32)) * (25 : Int32))), (.int (1 : Int32))]))
  refine own_by (fun t kk_ => XS.iadd X0.here hx rfl (hb hby at_8) rfl kk_) ?_
  show OwnG p e below s _ _ _ (s₁.setTop (mkF m 9 #[.val (.int a), .val (.int b), .val (.long r), .second, .unset, .unset, .unset, .unset, .unset, .unset, .unset, .unset, .unset, .unset, .unset, .unset, .unset] [(.int ((1 : Int32) + ((a &&& (2147483647 : Int32)) - ((a &&& (2147483647 : Int32)) / (25 : Int32)) * (25 : Int32))))]))
  obtain ⟨H0, hH0, heH⟩ := own_rem a (25 : Int32) 24 (by omega) rfl
  rw [heH, show (1 : Int32) + H0.toInt32 = (1 : Nat).toInt32 + H0.toInt32 from rfl, own_addN]
  generalize hHe : 1 + H0 = H
  have hH1 : 1 ≤ H := by omega
  have hH : H ≤ 25 := by omega
  show OwnG p e below s _ _ _ (s₁.setTop (mkF m 9 #[.val (.int a), .val (.int b), .val (.long r), .second, .unset, .unset, .unset, .unset, .unset, .unset, .unset, .unset, .unset, .unset, .unset, .unset, .unset] [(.int H.toInt32)]))
  refine own_by (fun t kk_ => XS.istore X0.here hx rfl (hb hby at_9) rfl (l' := #[.val (.int a), .val (.int b), .val (.long r), .second, .val (.int H.toInt32), .unset, .unset, .unset, .unset, .unset, .unset, .unset, .unset, .unset, .unset, .unset, .unset]) rfl kk_) ?_
  show OwnG p e below s _ _ _ (s₁.setTop (mkF m 11 #[.val (.int a), .val (.int b), .val (.long r), .second, .val (.int H.toInt32), .unset, .unset, .unset, .unset, .unset, .unset, .unset, .unset, .unset, .unset, .unset, .unset] []))
  refine own_by (fun t kk_ => XS.iloadN X0.here hx rfl (hb hby at_11) rfl  kk_) ?_
  show OwnG p e below s _ _ _ (s₁.setTop (mkF m 12 #[.val (.int a), .val (.int b), .val (.long r), .second, .val (.int H.toInt32), .unset, .unset, .unset, .unset, .unset, .unset, .unset, .unset, .unset, .unset, .unset, .unset] [(.int b)]))
  refine own_by (fun t kk_ => X0.ldcInt hx hown (mvT hZ (hw _ (List.mem_of_getElem? (i := 0) rfl))) (g := (mkF m 12 #[.val (.int a), .val (.int b), .val (.long r), .second, .val (.int H.toInt32), .unset, .unset, .unset, .unset, .unset, .unset, .unset, .unset, .unset, .unset, .unset, .unset] [(.int b)])) rfl (hb hby at_12) _ kk_) ?_
  show OwnG p e below s _ _ _ (s₁.setTop (mkF m 14 #[.val (.int a), .val (.int b), .val (.long r), .second, .val (.int H.toInt32), .unset, .unset, .unset, .unset, .unset, .unset, .unset, .unset, .unset, .unset, .unset, .unset] [(.int (2147483647 : Int32)), (.int b)]))
  refine own_by (fun t kk_ => XS.iand X0.here hx rfl (hb hby at_14) rfl kk_) ?_
  show OwnG p e below s _ _ _ (s₁.setTop (mkF m 15 #[.val (.int a), .val (.int b), .val (.long r), .second, .val (.int H.toInt32), .unset, .unset, .unset, .unset, .unset, .unset, .unset, .unset, .unset, .unset, .unset, .unset] [(.int (b &&& (2147483647 : Int32)))]))
  refine own_by (fun t kk_ => XS.iload X0.here hx rfl (hb hby at_15) rfl  kk_) ?_
  show OwnG p e below s _ _ _ (s₁.setTop (mkF m 17 #[.val (.int a), .val (.int b), .val (.long r), .second, .val (.int H.toInt32), .unset, .unset, .unset, .unset, .unset, .unset, .unset, .unset, .unset, .unset, .unset, .unset] [(.int H.toInt32), (.int (b &&& (2147483647 : Int32)))]))
  refine own_by (fun t kk_ => XS.iconst X0.here hx rfl (hb hby at_17) kk_) ?_
  show OwnG p e below s _ _ _ (s₁.setTop (mkF m 18 #[.val (.int a), .val (.int b), .val (.long r), .second, .val (.int H.toInt32), .unset, .unset, .unset, .unset, .unset, .unset, .unset, .unset, .unset, .unset, .unset, .unset] [(.int (1 : Int32)), (.int H.toInt32), (.int (b &&& (2147483647 : Int32)))]))
  refine own_by (fun t kk_ => XS.iadd X0.here hx rfl (hb hby at_18) rfl kk_) ?_
  show OwnG p e below s _ _ _ (s₁.setTop (mkF m 19 #[.val (.int a), .val (.int b), .val (.long r), .second, .val (.int H.toInt32), .unset, .unset, .unset, .unset, .unset, .unset, .unset, .unset, .unset, .unset, .unset, .unset] [(.int (H.toInt32 + (1 : Int32))), (.int (b &&& (2147483647 : Int32)))]))
  refine own_by (fun t kk_ => XS.irem X0.here hx rfl (hb hby at_19) rfl (own_nzH (by omega)) kk_) ?_
  show OwnG p e below s _ _ _ (s₁.setTop (mkF m 20 #[.val (.int a), .val (.int b), .val (.long r), .second, .val (.int H.toInt32), .unset, .unset, .unset, .unset, .unset, .unset, .unset, .unset, .unset, .unset, .unset, .unset] [(.int ((b &&& (2147483647 : Int32)) - ((b &&& (2147483647 : Int32)) / (H.toInt32 + (1 : Int32))) * (H.toInt32 + (1 : Int32))))]))
  obtain ⟨hr, hhr, hehr⟩ := own_rem b (H.toInt32 + 1) H (by omega) (own_addN H 1)
  rw [hehr]
  show OwnG p e below s _ _ _ (s₁.setTop (mkF m 20 #[.val (.int a), .val (.int b), .val (.long r), .second, .val (.int H.toInt32), .unset, .unset, .unset, .unset, .unset, .unset, .unset, .unset, .unset, .unset, .unset, .unset] [(.int hr.toInt32)]))
  refine own_by (fun t kk_ => XS.istore X0.here hx rfl (hb hby at_20) rfl (l' := #[.val (.int a), .val (.int b), .val (.long r), .second, .val (.int H.toInt32), .val (.int hr.toInt32), .unset, .unset, .unset, .unset, .unset, .unset, .unset, .unset, .unset, .unset, .unset]) rfl kk_) ?_
  show OwnG p e below s _ _ _ (s₁.setTop (mkF m 22 #[.val (.int a), .val (.int b), .val (.long r), .second, .val (.int H.toInt32), .val (.int hr.toInt32), .unset, .unset, .unset, .unset, .unset, .unset, .unset, .unset, .unset, .unset, .unset] []))
  refine own_by (fun t kk_ => XS.lloadN X0.here hx rfl (hb hby at_22) rfl  kk_) ?_
  show OwnG p e below s _ _ _ (s₁.setTop (mkF m 23 #[.val (.int a), .val (.int b), .val (.long r), .second, .val (.int H.toInt32), .val (.int hr.toInt32), .unset, .unset, .unset, .unset, .unset, .unset, .unset, .unset, .unset, .unset, .unset] [(.long r)]))
  refine own_by (fun t kk_ => X0.ldc2Long hx hown (mvT hZ (hw _ (List.mem_of_getElem? (i := 1) rfl))) (g := (mkF m 23 #[.val (.int a), .val (.int b), .val (.long r), .second, .val (.int H.toInt32), .val (.int hr.toInt32), .unset, .unset, .unset, .unset, .unset, .unset, .unset, .unset, .unset, .unset, .unset] [(.long r)])) rfl (hb hby at_23) _ kk_) ?_
  show OwnG p e below s _ _ _ (s₁.setTop (mkF m 26 #[.val (.int a), .val (.int b), .val (.long r), .second, .val (.int H.toInt32), .val (.int hr.toInt32), .unset, .unset, .unset, .unset, .unset, .unset, .unset, .unset, .unset, .unset, .unset] [(.long (9223372036854775807 : Int64)), (.long r)]))
  refine own_by (fun t kk_ => XS.land X0.here hx rfl (hb hby at_26) rfl kk_) ?_
  show OwnG p e below s _ _ _ (s₁.setTop (mkF m 27 #[.val (.int a), .val (.int b), .val (.long r), .second, .val (.int H.toInt32), .val (.int hr.toInt32), .unset, .unset, .unset, .unset, .unset, .unset, .unset, .unset, .unset, .unset, .unset] [(.long (r &&& (9223372036854775807 : Int64)))]))
  refine own_by (fun t kk_ => X0.ldc2Long hx hown (mvT hZ (hw _ (List.mem_of_getElem? (i := 2) rfl))) (g := (mkF m 27 #[.val (.int a), .val (.int b), .val (.long r), .second, .val (.int H.toInt32), .val (.int hr.toInt32), .unset, .unset, .unset, .unset, .unset, .unset, .unset, .unset, .unset, .unset, .unset] [(.long (r &&& (9223372036854775807 : Int64)))])) rfl (hb hby at_27) _ kk_) ?_
  show OwnG p e below s _ _ _ (s₁.setTop (mkF m 30 #[.val (.int a), .val (.int b), .val (.long r), .second, .val (.int H.toInt32), .val (.int hr.toInt32), .unset, .unset, .unset, .unset, .unset, .unset, .unset, .unset, .unset, .unset, .unset] [(.long (368934881474191033 : Int64)), (.long (r &&& (9223372036854775807 : Int64)))]))
  refine own_by (fun t kk_ => XS.lrem X0.here hx rfl (hb hby at_30) rfl (by decide) kk_) ?_
  show OwnG p e below s _ _ _ (s₁.setTop (mkF m 31 #[.val (.int a), .val (.int b), .val (.long r), .second, .val (.int H.toInt32), .val (.int hr.toInt32), .unset, .unset, .unset, .unset, .unset, .unset, .unset, .unset, .unset, .unset, .unset] [(.long ((r &&& (9223372036854775807 : Int64)) - ((r &&& (9223372036854775807 : Int64)) / (368934881474191033 : Int64)) * (368934881474191033 : Int64)))]))
  have hB := own_rate r
  generalize ((r &&& (9223372036854775807 : Int64)) - ((r &&& (9223372036854775807 : Int64)) / (368934881474191033 : Int64)) * (368934881474191033 : Int64)) = R at hB ⊢
  show OwnG p e below s _ _ _ (s₁.setTop (mkF m 31 #[.val (.int a), .val (.int b), .val (.long r), .second, .val (.int H.toInt32), .val (.int hr.toInt32), .unset, .unset, .unset, .unset, .unset, .unset, .unset, .unset, .unset, .unset, .unset] [(.long R)]))
  refine own_by (fun t kk_ => XS.lstore X0.here hx rfl (hb hby at_31) rfl (l' := #[.val (.int a), .val (.int b), .val (.long r), .second, .val (.int H.toInt32), .val (.int hr.toInt32), .val (.long R), .second, .unset, .unset, .unset, .unset, .unset, .unset, .unset, .unset, .unset]) rfl kk_) ?_
  show OwnG p e below s _ _ _ (s₁.setTop (mkF m 33 #[.val (.int a), .val (.int b), .val (.long r), .second, .val (.int H.toInt32), .val (.int hr.toInt32), .val (.long R), .second, .unset, .unset, .unset, .unset, .unset, .unset, .unset, .unset, .unset] []))
  obtain ⟨T1, h1, X1, e1, E1, A1, D1, -, st1⟩ := newO X0 hx hZ hown (hw _ (List.mem_of_getElem? (i := 3) rfl)) (hw _ (List.mem_of_getElem? (i := 4) rfl)) (hw _ (List.mem_of_getElem? (i := 5) rfl)) e0 (g := (mkF m 33 #[.val (.int a), .val (.int b), .val (.long r), .second, .val (.int H.toInt32), .val (.int hr.toInt32), .val (.long R), .second, .unset, .unset, .unset, .unset, .unset, .unset, .unset, .unset, .unset] [])) rfl (hb hby at_33) (by decide) (by decide)
  obtain ⟨ob, g1⟩ : ∃ z, z = h0.size := ⟨_, rfl⟩
  rw [← g1] at A1 D1 st1
  have gg_ob : n0 ≤ ob := by rw [g1]; exact Z0
  have sz1 : n0 ≤ h1.size := Nat.le_trans Z0 E1.1
  refine own_by (fun t kk_ => st1 _ kk_) ?_
  have f2 := Sta.ext E1 SZ
  have f3 := Sta.ext E1 SP
  have f4 : Fld Z h1 ob "com/example/gasholder/gasholder/Execution" "starts" "[J" .null := D1 (Or.inl (hw _ (List.mem_of_getElem? (i := 14) rfl))) (ty := (.array .long)) (by decide)
  have f5 : Fld Z h1 ob "com/example/gasholder/gasholder/Execution" "ends" "[J" .null := D1 (Or.inl (hw _ (List.mem_of_getElem? (i := 16) rfl))) (ty := (.array .long)) (by decide)
  have f6 : Fld Z h1 ob "com/example/gasholder/gasholder/Execution" "rate" "J" (.long (0 : Int64)) := D1 (Or.inr (hw _ (List.mem_of_getElem? (i := 18) rfl))) (ty := .long) (by decide)
  have f7 : Fld Z h1 ob "com/example/gasholder/gasholder/Execution" "hours" "I" (.int (0 : Int32)) := D1 (Or.inr (hw _ (List.mem_of_getElem? (i := 20) rfl))) (ty := .int) (by decide)
  have f8 : Fld Z h1 ob "com/example/gasholder/gasholder/Execution" "dayHours" "I" (.int (0 : Int32)) := D1 (Or.inr (hw _ (List.mem_of_getElem? (i := 22) rfl))) (ty := .int) (by decide)
  have f9 : Fld Z h1 ob "com/example/gasholder/gasholder/Execution" "runs" "I" (.int (0 : Int32)) := D1 (Or.inl (hw _ (List.mem_of_getElem? (i := 34) rfl))) (ty := .int) (by decide)
  have f10 : Fld Z h1 ob "com/example/gasholder/gasholder/Execution" "schedule" "J" (.long (0 : Int64)) := D1 (Or.inl (hw _ (List.mem_of_getElem? (i := 54) rfl))) (ty := .long) (by decide)
  show OwnG p e below s _ _ _ (T1.setTop (mkF m 36 #[.val (.int a), .val (.int b), .val (.long r), .second, .val (.int H.toInt32), .val (.int hr.toInt32), .val (.long R), .second, .unset, .unset, .unset, .unset, .unset, .unset, .unset, .unset, .unset] [(.ref ob)]))
  refine own_by (fun t kk_ => XS.dup X1.here hx rfl (hb hby at_36) rfl rfl kk_) ?_
  show OwnG p e below s _ _ _ (T1.setTop (mkF m 37 #[.val (.int a), .val (.int b), .val (.long r), .second, .val (.int H.toInt32), .val (.int hr.toInt32), .val (.long R), .second, .unset, .unset, .unset, .unset, .unset, .unset, .unset, .unset, .unset] [(.ref ob), (.ref ob)]))
  refine own_by (fun t kk_ => XS.lload X1.here hx rfl (hb hby at_37) rfl  kk_) ?_
  show OwnG p e below s _ _ _ (T1.setTop (mkF m 39 #[.val (.int a), .val (.int b), .val (.long r), .second, .val (.int H.toInt32), .val (.int hr.toInt32), .val (.long R), .second, .unset, .unset, .unset, .unset, .unset, .unset, .unset, .unset, .unset] [(.long R), (.ref ob), (.ref ob)]))
  refine own_by (fun t kk_ => XS.iload X1.here hx rfl (hb hby at_39) rfl  kk_) ?_
  show OwnG p e below s _ _ _ (T1.setTop (mkF m 41 #[.val (.int a), .val (.int b), .val (.long r), .second, .val (.int H.toInt32), .val (.int hr.toInt32), .val (.long R), .second, .unset, .unset, .unset, .unset, .unset, .unset, .unset, .unset, .unset] [(.int H.toInt32), (.long R), (.ref ob), (.ref ob)]))
  refine own_by (fun t kk_ => XS.bipush X1.here hx rfl (hb hby at_41) kk_) ?_
  show OwnG p e below s _ _ _ (T1.setTop (mkF m 43 #[.val (.int a), .val (.int b), .val (.long r), .second, .val (.int H.toInt32), .val (.int hr.toInt32), .val (.long R), .second, .unset, .unset, .unset, .unset, .unset, .unset, .unset, .unset, .unset] [(.int (25 : Int32)), (.int H.toInt32), (.long R), (.ref ob), (.ref ob)]))
  obtain ⟨_, _, ⟨T11, L11, k11, n11⟩, -, X11, ⟨Lc11, hQ11, l11, y11, z11⟩, st11⟩ := X1.specialBack hx (y := (⟨"com/example/gasholder/gasholder/Execution", "<init>", "(JII)V"⟩ : MethodName)) rfl hown (mvT hZ (hw _ (List.mem_of_getElem? (i := 6) rfl))) (mvT hZ (hw _ (List.mem_of_getElem? (i := 7) rfl))) (mvT hZ (hw _ (List.mem_of_getElem? (i := 8) rfl))) (by decide) (backOf (W := 1) (rm1 l Z a0 hw [] ob R H h1 n0 sz1 A1 f4 f5 f6 f7 f9 f10 f8 gg_ob) hZ (hw _ (List.mem_of_getElem? (i := 8) rfl)) (hw _ (List.mem_of_getElem? (i := 5) rfl)) (by decide) (by decide)) (g := (mkF m 43 #[.val (.int a), .val (.int b), .val (.long r), .second, .val (.int H.toInt32), .val (.int hr.toInt32), .val (.long R), .second, .unset, .unset, .unset, .unset, .unset, .unset, .unset, .unset, .unset] [(.int (25 : Int32)), (.int H.toInt32), (.long R), (.ref ob), (.ref ob)])) rfl (by rw [hml]; rfl) (Steps.refl _) (a := ob) (argsL := [(.long R), (.int H.toInt32), (.int (25 : Int32))]) (rest := [(.ref ob)]) (lenOf pd_5 rfl) rfl (by show 2 * 0 + _ ≤ _; exact Nat.le_of_eq rfl) (hb hby at_43) (fun _ _ => ⟨rfl, e1, (by decide : 0 + 1 + 2 ≤ _), (by decide : 0 + 7 + 4 ≤ _)⟩)
  dsimp only [Pt.U, Pt.locs, Pt.cells, Pt.slots] at X11 l11 y11 z11 st11 hQ11
  subst l11 y11 z11
  refine own_by (fun t kk_ => st11.trans kk_) ?_
  obtain ⟨rfl, N11q, K11, sa, ea, g2, g3, nas, nae, nse, O11⟩ := hQ11
  have N11 := Fr.app N0 N11q
  have sz11 : n0 ≤ T11.heap.size := Nat.le_trans sz1 K11.1
  have SZ11 := own_staK f2 K11 A1
  have SP11 := own_staK f3 K11 A1
  show OwnG p e below s _ _ _ (T11.setTop (mkF m 46 #[.val (.int a), .val (.int b), .val (.long r), .second, .val (.int H.toInt32), .val (.int hr.toInt32), .val (.long R), .second, .unset, .unset, .unset, .unset, .unset, .unset, .unset, .unset, .unset] [(.ref ob)]))
  refine own_by (fun t kk_ => XS.astore X11.here hx rfl (hb hby at_46) rfl rfl (l' := #[.val (.int a), .val (.int b), .val (.long r), .second, .val (.int H.toInt32), .val (.int hr.toInt32), .val (.long R), .second, .val (.ref ob), .unset, .unset, .unset, .unset, .unset, .unset, .unset, .unset]) rfl kk_) ?_
  show OwnG p e below s _ _ _ (T11.setTop (mkF m 48 #[.val (.int a), .val (.int b), .val (.long r), .second, .val (.int H.toInt32), .val (.int hr.toInt32), .val (.long R), .second, .val (.ref ob), .unset, .unset, .unset, .unset, .unset, .unset, .unset, .unset] []))
  refine own_by (fun t kk_ => XS.aload X11.here hx rfl (hb hby at_48) rfl rfl kk_) ?_
  show OwnG p e below s _ _ _ (T11.setTop (mkF m 50 #[.val (.int a), .val (.int b), .val (.long r), .second, .val (.int H.toInt32), .val (.int hr.toInt32), .val (.long R), .second, .val (.ref ob), .unset, .unset, .unset, .unset, .unset, .unset, .unset, .unset] [(.ref ob)]))
  refine own_by (fun t kk_ => XS.iconst X11.here hx rfl (hb hby at_50) kk_) ?_
  show OwnG p e below s _ _ _ (T11.setTop (mkF m 51 #[.val (.int a), .val (.int b), .val (.long r), .second, .val (.int H.toInt32), .val (.int hr.toInt32), .val (.long R), .second, .val (.ref ob), .unset, .unset, .unset, .unset, .unset, .unset, .unset, .unset] [(.int (0 : Int32)), (.ref ob)]))
  refine own_by (fun t kk_ => XS.lload X11.here hx rfl (hb hby at_51) rfl  kk_) ?_
  show OwnG p e below s _ _ _ (T11.setTop (mkF m 53 #[.val (.int a), .val (.int b), .val (.long r), .second, .val (.int H.toInt32), .val (.int hr.toInt32), .val (.long R), .second, .val (.ref ob), .unset, .unset, .unset, .unset, .unset, .unset, .unset, .unset] [(.long R), (.int (0 : Int32)), (.ref ob)]))
  by_cases hR0 : R = 0
  · have hE0 : ¬ (0 : Int64) < (H.toInt32.toInt64 * R) := by rw [hR0, Int64.mul_zero]; decide
    show OwnG p e below s _ _ _ (T11.setTop (mkF m 53 #[.val (.int a), .val (.int b), .val (.long r), .second, .val (.int H.toInt32), .val (.int hr.toInt32), .val (.long R), .second, .val (.ref ob), .unset, .unset, .unset, .unset, .unset, .unset, .unset, .unset] [(.long R), (.int (0 : Int32)), (.ref ob)]))
    obtain ⟨cq12, kq12, q12a, q12b, q12c⟩ := isOf hZ (rfl : T11.heap = T11.heap) O11.1
    obtain ⟨_, _, ⟨T12, L12, k12, n12⟩, -, X12, ⟨Lc12, hQ12, l12, y12, z12⟩, st12⟩ := X11.virtualBack hx (y := (⟨"com/example/gasholder/gasholder/Execution", "schedule", "(IJ)Ljava/time/Duration;"⟩ : MethodName)) (z := (⟨"com/example/gasholder/gasholder/Execution", "schedule", "(IJ)Ljava/time/Duration;"⟩ : MethodName)) hown (mvT hZ (hw _ (List.mem_of_getElem? (i := 23) rfl))) (mvT hZ (hw _ (List.mem_of_getElem? (i := 24) rfl))) (notFace_of_selects (args := #[]) (mvT hZ (hw _ (List.mem_of_getElem? (i := 26) rfl)))) (mvT hZ (hw _ (List.mem_of_getElem? (i := 26) rfl))) (mvT hZ (hw _ (List.mem_of_getElem? (i := 25) rfl))) (by decide) (backOf (W := 0) (rm3z l Z a0 hw [] ob sa ea zd R sp H T11.heap n0 sz11 O11 SZ11 SP11 nas nae nse gg_ob g2 g3 hB hH1 hH hE0) hZ (hw _ (List.mem_of_getElem? (i := 27) rfl)) (hw _ (List.mem_of_getElem? (i := 5) rfl)) (by decide) (by decide)) q12a q12c (g := (mkF m 53 #[.val (.int a), .val (.int b), .val (.long r), .second, .val (.int H.toInt32), .val (.int hr.toInt32), .val (.long R), .second, .val (.ref ob), .unset, .unset, .unset, .unset, .unset, .unset, .unset, .unset] [(.long R), (.int (0 : Int32)), (.ref ob)])) rfl (by rw [hml]; rfl) (Steps.refl _) (argsL := [(.int (0 : Int32)), (.long R)]) (rest := []) (lenOf pd_6 rfl) rfl (by show 2 * 0 + _ ≤ _; exact Nat.le_of_eq rfl) (hb hby at_53) (fun _ _ => ⟨rfl, (rfl : T11.heap = T11.heap), (by decide : 0 + 1 + 2 + 0 ≤ _), (by decide : 0 + 7 + 4 + 0 ≤ _)⟩)
    dsimp only [Pt.U, Pt.locs, Pt.cells, Pt.slots] at X12 l12 y12 z12 st12 hQ12
    subst l12 y12 z12
    refine own_by (fun t kk_ => st12.trans kk_) ?_
    obtain ⟨rfl, N12q, O12⟩ := hQ12
    have N12 := Fr.app N11 N12q
    have sz12 : n0 ≤ T12.heap.size := Nat.le_trans g2 (Nat.le_of_lt O12.2.2.2.2.2.2.2.1.lt)
    show OwnG p e below s _ _ _ (T12.setTop (mkF m 56 #[.val (.int a), .val (.int b), .val (.long r), .second, .val (.int H.toInt32), .val (.int hr.toInt32), .val (.long R), .second, .val (.ref ob), .unset, .unset, .unset, .unset, .unset, .unset, .unset, .unset] [.null]))
    refine own_by (fun t kk_ => XS.pop X12.here hx rfl (hb hby at_56) rfl rfl kk_) ?_
    show OwnG p e below s _ _ _ (T12.setTop (mkF m 57 #[.val (.int a), .val (.int b), .val (.long r), .second, .val (.int H.toInt32), .val (.int hr.toInt32), .val (.long R), .second, .val (.ref ob), .unset, .unset, .unset, .unset, .unset, .unset, .unset, .unset] []))
    refine own_by (fun t kk_ => XS.aload X12.here hx rfl (hb hby at_57) rfl rfl kk_) ?_
    show OwnG p e below s _ _ _ (T12.setTop (mkF m 59 #[.val (.int a), .val (.int b), .val (.long r), .second, .val (.int H.toInt32), .val (.int hr.toInt32), .val (.long R), .second, .val (.ref ob), .unset, .unset, .unset, .unset, .unset, .unset, .unset, .unset] [(.ref ob)]))
    obtain ⟨cq13, kq13, q13a, q13b, q13c⟩ := isOf hZ (rfl : T12.heap = T12.heap) O12.1
    obtain ⟨_, _, ⟨T13, L13, k13, n13⟩, -, X13, ⟨Lc13, hQ13, l13, y13, z13⟩, st13⟩ := X12.virtualBack hx (y := (⟨"com/example/gasholder/gasholder/Execution", "scheduled", "()J"⟩ : MethodName)) (z := (⟨"com/example/gasholder/gasholder/Execution", "scheduled", "()J"⟩ : MethodName)) hown (mvT hZ (hw _ (List.mem_of_getElem? (i := 55) rfl))) (mvT hZ (hw _ (List.mem_of_getElem? (i := 56) rfl))) (notFace_of_selects (args := #[]) (mvT hZ (hw _ (List.mem_of_getElem? (i := 58) rfl)))) (mvT hZ (hw _ (List.mem_of_getElem? (i := 58) rfl))) (mvT hZ (hw _ (List.mem_of_getElem? (i := 57) rfl))) (by decide) (backOf (W := 0) (rm9 l Z a0 hw [] ob sa ea R H 0 R (fun _ => .long (0 : Int64)) (fun _ => .long (0 : Int64)) T12.heap n0 sz12 O12) hZ (hw _ (List.mem_of_getElem? (i := 59) rfl)) (hw _ (List.mem_of_getElem? (i := 5) rfl)) (by decide) (by decide)) q13a q13c (g := (mkF m 59 #[.val (.int a), .val (.int b), .val (.long r), .second, .val (.int H.toInt32), .val (.int hr.toInt32), .val (.long R), .second, .val (.ref ob), .unset, .unset, .unset, .unset, .unset, .unset, .unset, .unset] [(.ref ob)])) rfl (by rw [hml]; rfl) (Steps.refl _) (argsL := []) (rest := []) (lenOf pd_7 rfl) rfl (by show 2 * 0 + _ ≤ _; exact Nat.le_of_eq rfl) (hb hby at_59) (fun _ _ => ⟨rfl, (rfl : T12.heap = T12.heap), (by decide : 0 + 1 + 2 + 0 ≤ _), (by decide : 0 + 7 + 4 + 0 ≤ _)⟩)
    dsimp only [Pt.U, Pt.locs, Pt.cells, Pt.slots] at X13 l13 y13 z13 st13 hQ13
    subst l13 y13 z13
    refine own_by (fun t kk_ => st13.trans kk_) ?_
    obtain ⟨rfl, N13q, hh13⟩ := hQ13
    have N13 := Fr.app N12 N13q
    have f14 := O12.1
    rw [← hh13] at f14
    have f15 := O12.2.1
    rw [← hh13] at f15
    have f16 := O12.2.2.1
    rw [← hh13] at f16
    have f17 := O12.2.2.2.1
    rw [← hh13] at f17
    have f18 := O12.2.2.2.2.1
    rw [← hh13] at f18
    have f19 := O12.2.2.2.2.2.1
    rw [← hh13] at f19
    have f20 := O12.2.2.2.2.2.2.1
    rw [← hh13] at f20
    have f21 := O12.2.2.2.2.2.2.2.1
    rw [← hh13] at f21
    have f22 := O12.2.2.2.2.2.2.2.2
    rw [← hh13] at f22
    have sz13 : n0 ≤ T13.heap.size := by rw [hh13]; exact sz12
    have O13 := O12
    rw [← hh13] at O13
    show OwnG p e below s _ _ _ (T13.setTop (mkF m 62 #[.val (.int a), .val (.int b), .val (.long r), .second, .val (.int H.toInt32), .val (.int hr.toInt32), .val (.long R), .second, .val (.ref ob), .unset, .unset, .unset, .unset, .unset, .unset, .unset, .unset] [(.long R)]))
    refine own_by (fun t kk_ => XS.aload X13.here hx rfl (hb hby at_62) rfl rfl kk_) ?_
    show OwnG p e below s _ _ _ (T13.setTop (mkF m 64 #[.val (.int a), .val (.int b), .val (.long r), .second, .val (.int H.toInt32), .val (.int hr.toInt32), .val (.long R), .second, .val (.ref ob), .unset, .unset, .unset, .unset, .unset, .unset, .unset, .unset] [(.ref ob), (.long R)]))
    obtain ⟨cq23, kq23, q23a, q23b, q23c⟩ := isOf hZ (rfl : T13.heap = T13.heap) f14
    obtain ⟨_, _, ⟨T23, L23, k23, n23⟩, -, X23, ⟨Lc23, hQ23, l23, y23, z23⟩, st23⟩ := X13.virtualBack hx (y := (⟨"com/example/gasholder/gasholder/Execution", "partsPerKwh", "()J"⟩ : MethodName)) (z := (⟨"com/example/gasholder/gasholder/Execution", "partsPerKwh", "()J"⟩ : MethodName)) hown (mvT hZ (hw _ (List.mem_of_getElem? (i := 60) rfl))) (mvT hZ (hw _ (List.mem_of_getElem? (i := 61) rfl))) (notFace_of_selects (args := #[]) (mvT hZ (hw _ (List.mem_of_getElem? (i := 63) rfl)))) (mvT hZ (hw _ (List.mem_of_getElem? (i := 63) rfl))) (mvT hZ (hw _ (List.mem_of_getElem? (i := 62) rfl))) (by decide) (backOf (W := 2) (rm10 l Z a0 hw [] ob sa ea R H 0 R (fun _ => .long (0 : Int64)) (fun _ => .long (0 : Int64)) T13.heap n0 sz13 O13) hZ (hw _ (List.mem_of_getElem? (i := 64) rfl)) (hw _ (List.mem_of_getElem? (i := 5) rfl)) (by decide) (by decide)) q23a q23c (g := (mkF m 64 #[.val (.int a), .val (.int b), .val (.long r), .second, .val (.int H.toInt32), .val (.int hr.toInt32), .val (.long R), .second, .val (.ref ob), .unset, .unset, .unset, .unset, .unset, .unset, .unset, .unset] [(.ref ob), (.long R)])) rfl (by rw [hml]; rfl) (Steps.refl _) (argsL := []) (rest := [(.long R)]) (lenOf pd_7 rfl) rfl (by show 2 * 0 + _ ≤ _; exact Nat.le_of_eq rfl) (hb hby at_64) (fun _ _ => ⟨rfl, (rfl : T13.heap = T13.heap), (by decide : 0 + 1 + 2 + 0 ≤ _), (by decide : 0 + 7 + 4 + 0 ≤ _)⟩)
    dsimp only [Pt.U, Pt.locs, Pt.cells, Pt.slots] at X23 l23 y23 z23 st23 hQ23
    subst l23 y23 z23
    refine own_by (fun t kk_ => st23.trans kk_) ?_
    obtain ⟨rfl, N23q, hh23⟩ := hQ23
    have N23 := Fr.app N13 N23q
    have f24 := f14
    rw [← hh23] at f24
    have f25 := f15
    rw [← hh23] at f25
    have f26 := f16
    rw [← hh23] at f26
    have f27 := f17
    rw [← hh23] at f27
    have f28 := f18
    rw [← hh23] at f28
    have f29 := f19
    rw [← hh23] at f29
    have f30 := f20
    rw [← hh23] at f30
    have f31 := f21
    rw [← hh23] at f31
    have f32 := f22
    rw [← hh23] at f32
    have sz23 : n0 ≤ T23.heap.size := by rw [hh23]; exact sz13
    have O23 := O13
    rw [← hh23] at O23
    show OwnG p e below s _ _ _ (T23.setTop (mkF m 67 #[.val (.int a), .val (.int b), .val (.long r), .second, .val (.int H.toInt32), .val (.int hr.toInt32), .val (.long R), .second, .val (.ref ob), .unset, .unset, .unset, .unset, .unset, .unset, .unset, .unset] [(.long H.toInt32.toInt64), (.long R)]))
    refine own_by (fun t kk_ => XS.lmul X23.here hx rfl (hb hby at_67) rfl kk_) ?_
    show OwnG p e below s _ _ _ (T23.setTop (mkF m 68 #[.val (.int a), .val (.int b), .val (.long r), .second, .val (.int H.toInt32), .val (.int hr.toInt32), .val (.long R), .second, .val (.ref ob), .unset, .unset, .unset, .unset, .unset, .unset, .unset, .unset] [(.long (R * H.toInt32.toInt64))]))
    refine own_by (fun t kk_ => XS.lstore X23.here hx rfl (hb hby at_68) rfl (l' := #[.val (.int a), .val (.int b), .val (.long r), .second, .val (.int H.toInt32), .val (.int hr.toInt32), .val (.long R), .second, .val (.ref ob), .val (.long (R * H.toInt32.toInt64)), .second, .unset, .unset, .unset, .unset, .unset, .unset]) rfl kk_) ?_
    show OwnG p e below s _ _ _ (T23.setTop (mkF m 70 #[.val (.int a), .val (.int b), .val (.long r), .second, .val (.int H.toInt32), .val (.int hr.toInt32), .val (.long R), .second, .val (.ref ob), .val (.long (R * H.toInt32.toInt64)), .second, .unset, .unset, .unset, .unset, .unset, .unset] []))
    refine own_by (fun t kk_ => XS.aload X23.here hx rfl (hb hby at_70) rfl rfl kk_) ?_
    show OwnG p e below s _ _ _ (T23.setTop (mkF m 72 #[.val (.int a), .val (.int b), .val (.long r), .second, .val (.int H.toInt32), .val (.int hr.toInt32), .val (.long R), .second, .val (.ref ob), .val (.long (R * H.toInt32.toInt64)), .second, .unset, .unset, .unset, .unset, .unset, .unset] [(.ref ob)]))
    refine own_by (fun t kk_ => XS.iload X23.here hx rfl (hb hby at_72) rfl  kk_) ?_
    show OwnG p e below s _ _ _ (T23.setTop (mkF m 74 #[.val (.int a), .val (.int b), .val (.long r), .second, .val (.int H.toInt32), .val (.int hr.toInt32), .val (.long R), .second, .val (.ref ob), .val (.long (R * H.toInt32.toInt64)), .second, .unset, .unset, .unset, .unset, .unset, .unset] [(.int hr.toInt32), (.ref ob)]))
    obtain ⟨cq33, kq33, q33a, q33b, q33c⟩ := isOf hZ (rfl : T23.heap = T23.heap) f24
    obtain ⟨_, _, ⟨T33, L33, k33, n33⟩, -, X33, ⟨Lc33, hQ33, l33, y33, z33⟩, st33⟩ := X23.virtualBack hx (y := (⟨"com/example/gasholder/gasholder/Execution", "flowedBy", "(I)J"⟩ : MethodName)) (z := (⟨"com/example/gasholder/gasholder/Execution", "flowedBy", "(I)J"⟩ : MethodName)) hown (mvT hZ (hw _ (List.mem_of_getElem? (i := 65) rfl))) (mvT hZ (hw _ (List.mem_of_getElem? (i := 29) rfl))) (notFace_of_selects (args := #[]) (mvT hZ (hw _ (List.mem_of_getElem? (i := 31) rfl)))) (mvT hZ (hw _ (List.mem_of_getElem? (i := 31) rfl))) (mvT hZ (hw _ (List.mem_of_getElem? (i := 30) rfl))) (by decide) (backOf (W := 0) (rm4z l Z a0 hw [] ob sa ea R H hr R (fun _ => .long (0 : Int64)) (fun _ => .long (0 : Int64)) T23.heap n0 sz23 O23) hZ (hw _ (List.mem_of_getElem? (i := 32) rfl)) (hw _ (List.mem_of_getElem? (i := 5) rfl)) (by decide) (by decide)) q33a q33c (g := (mkF m 74 #[.val (.int a), .val (.int b), .val (.long r), .second, .val (.int H.toInt32), .val (.int hr.toInt32), .val (.long R), .second, .val (.ref ob), .val (.long (R * H.toInt32.toInt64)), .second, .unset, .unset, .unset, .unset, .unset, .unset] [(.int hr.toInt32), (.ref ob)])) rfl (by rw [hml]; rfl) (Steps.refl _) (argsL := [(.int hr.toInt32)]) (rest := []) (lenOf pd_4 rfl) rfl (by show 2 * 0 + _ ≤ _; exact Nat.le_of_eq rfl) (hb hby at_74) (fun _ _ => ⟨rfl, (rfl : T23.heap = T23.heap), (by decide : 0 + 1 + 2 + 0 ≤ _), (by decide : 0 + 7 + 4 + 0 ≤ _)⟩)
    dsimp only [Pt.U, Pt.locs, Pt.cells, Pt.slots] at X33 l33 y33 z33 st33 hQ33
    subst l33 y33 z33
    refine own_by (fun t kk_ => st33.trans kk_) ?_
    obtain ⟨rfl, N33q, hh33⟩ := hQ33
    have N33 := Fr.app N23 N33q
    have f34 := f24
    rw [← hh33] at f34
    have f35 := f25
    rw [← hh33] at f35
    have f36 := f26
    rw [← hh33] at f36
    have f37 := f27
    rw [← hh33] at f37
    have f38 := f28
    rw [← hh33] at f38
    have f39 := f29
    rw [← hh33] at f39
    have f40 := f30
    rw [← hh33] at f40
    have f41 := f31
    rw [← hh33] at f41
    have f42 := f32
    rw [← hh33] at f42
    have sz33 : n0 ≤ T33.heap.size := by rw [hh33]; exact sz23
    have O33 := O23
    rw [← hh33] at O33
    show OwnG p e below s _ _ _ (T33.setTop (mkF m 77 #[.val (.int a), .val (.int b), .val (.long r), .second, .val (.int H.toInt32), .val (.int hr.toInt32), .val (.long R), .second, .val (.ref ob), .val (.long (R * H.toInt32.toInt64)), .second, .unset, .unset, .unset, .unset, .unset, .unset] [(.long (0 : Int64))]))
    refine own_by (fun t kk_ => XS.lstore X33.here hx rfl (hb hby at_77) rfl (l' := #[.val (.int a), .val (.int b), .val (.long r), .second, .val (.int H.toInt32), .val (.int hr.toInt32), .val (.long R), .second, .val (.ref ob), .val (.long (R * H.toInt32.toInt64)), .second, .val (.long (0 : Int64)), .second, .unset, .unset, .unset, .unset]) rfl kk_) ?_
    show OwnG p e below s _ _ _ (T33.setTop (mkF m 79 #[.val (.int a), .val (.int b), .val (.long r), .second, .val (.int H.toInt32), .val (.int hr.toInt32), .val (.long R), .second, .val (.ref ob), .val (.long (R * H.toInt32.toInt64)), .second, .val (.long (0 : Int64)), .second, .unset, .unset, .unset, .unset] []))
    refine own_by (fun t kk_ => XS.aload X33.here hx rfl (hb hby at_79) rfl rfl kk_) ?_
    show OwnG p e below s _ _ _ (T33.setTop (mkF m 81 #[.val (.int a), .val (.int b), .val (.long r), .second, .val (.int H.toInt32), .val (.int hr.toInt32), .val (.long R), .second, .val (.ref ob), .val (.long (R * H.toInt32.toInt64)), .second, .val (.long (0 : Int64)), .second, .unset, .unset, .unset, .unset] [(.ref ob)]))
    refine own_by (fun t kk_ => XS.iload X33.here hx rfl (hb hby at_81) rfl  kk_) ?_
    show OwnG p e below s _ _ _ (T33.setTop (mkF m 83 #[.val (.int a), .val (.int b), .val (.long r), .second, .val (.int H.toInt32), .val (.int hr.toInt32), .val (.long R), .second, .val (.ref ob), .val (.long (R * H.toInt32.toInt64)), .second, .val (.long (0 : Int64)), .second, .unset, .unset, .unset, .unset] [(.int hr.toInt32), (.ref ob)]))
    obtain ⟨cq43, kq43, q43a, q43b, q43c⟩ := isOf hZ (rfl : T33.heap = T33.heap) f34
    obtain ⟨_, _, ⟨T43, L43, k43, n43⟩, -, X43, ⟨Lc43, hQ43, l43, y43, z43⟩, st43⟩ := X33.virtualBack hx (y := (⟨"com/example/gasholder/gasholder/Execution", "mayStillFlowFrom", "(I)J"⟩ : MethodName)) (z := (⟨"com/example/gasholder/gasholder/Execution", "mayStillFlowFrom", "(I)J"⟩ : MethodName)) hown (mvT hZ (hw _ (List.mem_of_getElem? (i := 73) rfl))) (mvT hZ (hw _ (List.mem_of_getElem? (i := 74) rfl))) (notFace_of_selects (args := #[]) (mvT hZ (hw _ (List.mem_of_getElem? (i := 76) rfl)))) (mvT hZ (hw _ (List.mem_of_getElem? (i := 76) rfl))) (mvT hZ (hw _ (List.mem_of_getElem? (i := 75) rfl))) (by decide) (backOf (W := 0) (rm13 l Z a0 hw [] ob sa ea R H 0 R (fun _ => .long (0 : Int64)) (fun _ => .long (0 : Int64)) hr T33.heap n0 sz33 O33) hZ (hw _ (List.mem_of_getElem? (i := 77) rfl)) (hw _ (List.mem_of_getElem? (i := 5) rfl)) (by decide) (by decide)) q43a q43c (g := (mkF m 83 #[.val (.int a), .val (.int b), .val (.long r), .second, .val (.int H.toInt32), .val (.int hr.toInt32), .val (.long R), .second, .val (.ref ob), .val (.long (R * H.toInt32.toInt64)), .second, .val (.long (0 : Int64)), .second, .unset, .unset, .unset, .unset] [(.int hr.toInt32), (.ref ob)])) rfl (by rw [hml]; rfl) (Steps.refl _) (argsL := [(.int hr.toInt32)]) (rest := []) (lenOf pd_4 rfl) rfl (by show 2 * 0 + _ ≤ _; exact Nat.le_of_eq rfl) (hb hby at_83) (fun _ _ => ⟨rfl, (rfl : T33.heap = T33.heap), (by decide : 0 + 1 + 2 + 0 ≤ _), (by decide : 0 + 7 + 4 + 0 ≤ _)⟩)
    dsimp only [Pt.U, Pt.locs, Pt.cells, Pt.slots] at X43 l43 y43 z43 st43 hQ43
    subst l43 y43 z43
    refine own_by (fun t kk_ => st43.trans kk_) ?_
    obtain ⟨rfl, N43q, hh43⟩ := hQ43
    have N43 := Fr.app N33 N43q
    have f44 := f34
    rw [← hh43] at f44
    have f45 := f35
    rw [← hh43] at f45
    have f46 := f36
    rw [← hh43] at f46
    have f47 := f37
    rw [← hh43] at f47
    have f48 := f38
    rw [← hh43] at f48
    have f49 := f39
    rw [← hh43] at f49
    have f50 := f40
    rw [← hh43] at f50
    have f51 := f41
    rw [← hh43] at f51
    have f52 := f42
    rw [← hh43] at f52
    have sz43 : n0 ≤ T43.heap.size := by rw [hh43]; exact sz33
    have O43 := O33
    rw [← hh43] at O43
    show OwnG p e below s _ _ _ (T43.setTop (mkF m 86 #[.val (.int a), .val (.int b), .val (.long r), .second, .val (.int H.toInt32), .val (.int hr.toInt32), .val (.long R), .second, .val (.ref ob), .val (.long (R * H.toInt32.toInt64)), .second, .val (.long (0 : Int64)), .second, .unset, .unset, .unset, .unset] [(.long ((H.toInt32 - hr.toInt32).toInt64 * R))]))
    refine own_by (fun t kk_ => XS.lstore X43.here hx rfl (hb hby at_86) rfl (l' := #[.val (.int a), .val (.int b), .val (.long r), .second, .val (.int H.toInt32), .val (.int hr.toInt32), .val (.long R), .second, .val (.ref ob), .val (.long (R * H.toInt32.toInt64)), .second, .val (.long (0 : Int64)), .second, .val (.long ((H.toInt32 - hr.toInt32).toInt64 * R)), .second, .unset, .unset]) rfl kk_) ?_
    show OwnG p e below s _ _ _ (T43.setTop (mkF m 88 #[.val (.int a), .val (.int b), .val (.long r), .second, .val (.int H.toInt32), .val (.int hr.toInt32), .val (.long R), .second, .val (.ref ob), .val (.long (R * H.toInt32.toInt64)), .second, .val (.long (0 : Int64)), .second, .val (.long ((H.toInt32 - hr.toInt32).toInt64 * R)), .second, .unset, .unset] []))
    refine own_by (fun t kk_ => XS.aload X43.here hx rfl (hb hby at_88) rfl rfl kk_) ?_
    show OwnG p e below s _ _ _ (T43.setTop (mkF m 90 #[.val (.int a), .val (.int b), .val (.long r), .second, .val (.int H.toInt32), .val (.int hr.toInt32), .val (.long R), .second, .val (.ref ob), .val (.long (R * H.toInt32.toInt64)), .second, .val (.long (0 : Int64)), .second, .val (.long ((H.toInt32 - hr.toInt32).toInt64 * R)), .second, .unset, .unset] [(.ref ob)]))
    refine own_by (fun t kk_ => XS.iload X43.here hx rfl (hb hby at_90) rfl  kk_) ?_
    show OwnG p e below s _ _ _ (T43.setTop (mkF m 92 #[.val (.int a), .val (.int b), .val (.long r), .second, .val (.int H.toInt32), .val (.int hr.toInt32), .val (.long R), .second, .val (.ref ob), .val (.long (R * H.toInt32.toInt64)), .second, .val (.long (0 : Int64)), .second, .val (.long ((H.toInt32 - hr.toInt32).toInt64 * R)), .second, .unset, .unset] [(.int H.toInt32), (.ref ob)]))
    obtain ⟨cq53, kq53, q53a, q53b, q53c⟩ := isOf hZ (rfl : T43.heap = T43.heap) f44
    obtain ⟨_, _, ⟨T53, L53, k53, n53⟩, -, X53, ⟨Lc53, hQ53, l53, y53, z53⟩, st53⟩ := X43.virtualBack hx (y := (⟨"com/example/gasholder/gasholder/Execution", "mayStillFlowFrom", "(I)J"⟩ : MethodName)) (z := (⟨"com/example/gasholder/gasholder/Execution", "mayStillFlowFrom", "(I)J"⟩ : MethodName)) hown (mvT hZ (hw _ (List.mem_of_getElem? (i := 73) rfl))) (mvT hZ (hw _ (List.mem_of_getElem? (i := 74) rfl))) (notFace_of_selects (args := #[]) (mvT hZ (hw _ (List.mem_of_getElem? (i := 76) rfl)))) (mvT hZ (hw _ (List.mem_of_getElem? (i := 76) rfl))) (mvT hZ (hw _ (List.mem_of_getElem? (i := 75) rfl))) (by decide) (backOf (W := 0) (rm13 l Z a0 hw [] ob sa ea R H 0 R (fun _ => .long (0 : Int64)) (fun _ => .long (0 : Int64)) H T43.heap n0 sz43 O43) hZ (hw _ (List.mem_of_getElem? (i := 77) rfl)) (hw _ (List.mem_of_getElem? (i := 5) rfl)) (by decide) (by decide)) q53a q53c (g := (mkF m 92 #[.val (.int a), .val (.int b), .val (.long r), .second, .val (.int H.toInt32), .val (.int hr.toInt32), .val (.long R), .second, .val (.ref ob), .val (.long (R * H.toInt32.toInt64)), .second, .val (.long (0 : Int64)), .second, .val (.long ((H.toInt32 - hr.toInt32).toInt64 * R)), .second, .unset, .unset] [(.int H.toInt32), (.ref ob)])) rfl (by rw [hml]; rfl) (Steps.refl _) (argsL := [(.int H.toInt32)]) (rest := []) (lenOf pd_4 rfl) rfl (by show 2 * 0 + _ ≤ _; exact Nat.le_of_eq rfl) (hb hby at_92) (fun _ _ => ⟨rfl, (rfl : T43.heap = T43.heap), (by decide : 0 + 1 + 2 + 0 ≤ _), (by decide : 0 + 7 + 4 + 0 ≤ _)⟩)
    dsimp only [Pt.U, Pt.locs, Pt.cells, Pt.slots] at X53 l53 y53 z53 st53 hQ53
    subst l53 y53 z53
    refine own_by (fun t kk_ => st53.trans kk_) ?_
    obtain ⟨rfl, N53q, hh53⟩ := hQ53
    have N53 := Fr.app N43 N53q
    have f54 := f44
    rw [← hh53] at f54
    have f55 := f45
    rw [← hh53] at f55
    have f56 := f46
    rw [← hh53] at f56
    have f57 := f47
    rw [← hh53] at f57
    have f58 := f48
    rw [← hh53] at f58
    have f59 := f49
    rw [← hh53] at f59
    have f60 := f50
    rw [← hh53] at f60
    have f61 := f51
    rw [← hh53] at f61
    have f62 := f52
    rw [← hh53] at f62
    have sz53 : n0 ≤ T53.heap.size := by rw [hh53]; exact sz43
    have O53 := O43
    rw [← hh53] at O53
    show OwnG p e below s _ _ _ (T53.setTop (mkF m 95 #[.val (.int a), .val (.int b), .val (.long r), .second, .val (.int H.toInt32), .val (.int hr.toInt32), .val (.long R), .second, .val (.ref ob), .val (.long (R * H.toInt32.toInt64)), .second, .val (.long (0 : Int64)), .second, .val (.long ((H.toInt32 - hr.toInt32).toInt64 * R)), .second, .unset, .unset] [(.long ((H.toInt32 - H.toInt32).toInt64 * R))]))
    refine own_by (fun t kk_ => XS.lstore X53.here hx rfl (hb hby at_95) rfl (l' := #[.val (.int a), .val (.int b), .val (.long r), .second, .val (.int H.toInt32), .val (.int hr.toInt32), .val (.long R), .second, .val (.ref ob), .val (.long (R * H.toInt32.toInt64)), .second, .val (.long (0 : Int64)), .second, .val (.long ((H.toInt32 - hr.toInt32).toInt64 * R)), .second, .val (.long ((H.toInt32 - H.toInt32).toInt64 * R)), .second]) rfl kk_) ?_
    show OwnG p e below s _ _ _ (T53.setTop (mkF m 97 #[.val (.int a), .val (.int b), .val (.long r), .second, .val (.int H.toInt32), .val (.int hr.toInt32), .val (.long R), .second, .val (.ref ob), .val (.long (R * H.toInt32.toInt64)), .second, .val (.long (0 : Int64)), .second, .val (.long ((H.toInt32 - hr.toInt32).toInt64 * R)), .second, .val (.long ((H.toInt32 - H.toInt32).toInt64 * R)), .second] []))
    refine own_by (fun t kk_ => XS.lload X53.here hx rfl (hb hby at_97) rfl  kk_) ?_
    show OwnG p e below s _ _ _ (T53.setTop (mkF m 99 #[.val (.int a), .val (.int b), .val (.long r), .second, .val (.int H.toInt32), .val (.int hr.toInt32), .val (.long R), .second, .val (.ref ob), .val (.long (R * H.toInt32.toInt64)), .second, .val (.long (0 : Int64)), .second, .val (.long ((H.toInt32 - hr.toInt32).toInt64 * R)), .second, .val (.long ((H.toInt32 - H.toInt32).toInt64 * R)), .second] [(.long (0 : Int64))]))
    refine own_by (fun t kk_ => XS.lload X53.here hx rfl (hb hby at_99) rfl  kk_) ?_
    show OwnG p e below s _ _ _ (T53.setTop (mkF m 101 #[.val (.int a), .val (.int b), .val (.long r), .second, .val (.int H.toInt32), .val (.int hr.toInt32), .val (.long R), .second, .val (.ref ob), .val (.long (R * H.toInt32.toInt64)), .second, .val (.long (0 : Int64)), .second, .val (.long ((H.toInt32 - hr.toInt32).toInt64 * R)), .second, .val (.long ((H.toInt32 - H.toInt32).toInt64 * R)), .second] [(.long ((H.toInt32 - hr.toInt32).toInt64 * R)), (.long (0 : Int64))]))
    refine own_by (fun t kk_ => XS.ladd X53.here hx rfl (hb hby at_101) rfl kk_) ?_
    show OwnG p e below s _ _ _ (T53.setTop (mkF m 102 #[.val (.int a), .val (.int b), .val (.long r), .second, .val (.int H.toInt32), .val (.int hr.toInt32), .val (.long R), .second, .val (.ref ob), .val (.long (R * H.toInt32.toInt64)), .second, .val (.long (0 : Int64)), .second, .val (.long ((H.toInt32 - hr.toInt32).toInt64 * R)), .second, .val (.long ((H.toInt32 - H.toInt32).toInt64 * R)), .second] [(.long ((0 : Int64) + ((H.toInt32 - hr.toInt32).toInt64 * R)))]))
    refine own_by (fun t kk_ => XS.lload X53.here hx rfl (hb hby at_102) rfl  kk_) ?_
    show OwnG p e below s _ _ _ (T53.setTop (mkF m 104 #[.val (.int a), .val (.int b), .val (.long r), .second, .val (.int H.toInt32), .val (.int hr.toInt32), .val (.long R), .second, .val (.ref ob), .val (.long (R * H.toInt32.toInt64)), .second, .val (.long (0 : Int64)), .second, .val (.long ((H.toInt32 - hr.toInt32).toInt64 * R)), .second, .val (.long ((H.toInt32 - H.toInt32).toInt64 * R)), .second] [(.long (R * H.toInt32.toInt64)), (.long ((0 : Int64) + ((H.toInt32 - hr.toInt32).toInt64 * R)))]))
    refine own_by (fun t kk_ => XS.lcmp X53.here hx rfl (hb hby at_104) rfl kk_) ?_
    show OwnG p e below s _ _ _ (T53.setTop (mkF m 105 #[.val (.int a), .val (.int b), .val (.long r), .second, .val (.int H.toInt32), .val (.int hr.toInt32), .val (.long R), .second, .val (.ref ob), .val (.long (R * H.toInt32.toInt64)), .second, .val (.long (0 : Int64)), .second, .val (.long ((H.toInt32 - hr.toInt32).toInt64 * R)), .second, .val (.long ((H.toInt32 - H.toInt32).toInt64 * R)), .second] [(.int (lcmpW ((0 : Int64) + ((H.toInt32 - hr.toInt32).toInt64 * R)) (R * H.toInt32.toInt64)))]))
    refine own_by (fun t kk_ => XS.ifNo X53.here hx rfl (hb hby at_105) rfl ((if0 _ _).trans (teq ((lw_eq _ _).mpr (by have q := own_f1 hB hhr hH; rw [show (hr.toInt32.toInt64 * R) = 0 from by rw [hR0, Int64.mul_zero]] at q; exact q))).2) kk_) ?_
    show OwnG p e below s _ _ _ (T53.setTop (mkF m 108 #[.val (.int a), .val (.int b), .val (.long r), .second, .val (.int H.toInt32), .val (.int hr.toInt32), .val (.long R), .second, .val (.ref ob), .val (.long (R * H.toInt32.toInt64)), .second, .val (.long (0 : Int64)), .second, .val (.long ((H.toInt32 - hr.toInt32).toInt64 * R)), .second, .val (.long ((H.toInt32 - H.toInt32).toInt64 * R)), .second] []))
    refine own_by (fun t kk_ => XS.lload X53.here hx rfl (hb hby at_108) rfl  kk_) ?_
    show OwnG p e below s _ _ _ (T53.setTop (mkF m 110 #[.val (.int a), .val (.int b), .val (.long r), .second, .val (.int H.toInt32), .val (.int hr.toInt32), .val (.long R), .second, .val (.ref ob), .val (.long (R * H.toInt32.toInt64)), .second, .val (.long (0 : Int64)), .second, .val (.long ((H.toInt32 - hr.toInt32).toInt64 * R)), .second, .val (.long ((H.toInt32 - H.toInt32).toInt64 * R)), .second] [(.long ((H.toInt32 - hr.toInt32).toInt64 * R))]))
    refine own_by (fun t kk_ => XS.lconst X53.here hx rfl (hb hby at_110) kk_) ?_
    show OwnG p e below s _ _ _ (T53.setTop (mkF m 111 #[.val (.int a), .val (.int b), .val (.long r), .second, .val (.int H.toInt32), .val (.int hr.toInt32), .val (.long R), .second, .val (.ref ob), .val (.long (R * H.toInt32.toInt64)), .second, .val (.long (0 : Int64)), .second, .val (.long ((H.toInt32 - hr.toInt32).toInt64 * R)), .second, .val (.long ((H.toInt32 - H.toInt32).toInt64 * R)), .second] [(.long (0 : Int64)), (.long ((H.toInt32 - hr.toInt32).toInt64 * R))]))
    refine own_by (fun t kk_ => XS.lcmp X53.here hx rfl (hb hby at_111) rfl kk_) ?_
    show OwnG p e below s _ _ _ (T53.setTop (mkF m 112 #[.val (.int a), .val (.int b), .val (.long r), .second, .val (.int H.toInt32), .val (.int hr.toInt32), .val (.long R), .second, .val (.ref ob), .val (.long (R * H.toInt32.toInt64)), .second, .val (.long (0 : Int64)), .second, .val (.long ((H.toInt32 - hr.toInt32).toInt64 * R)), .second, .val (.long ((H.toInt32 - H.toInt32).toInt64 * R)), .second] [(.int (lcmpW ((H.toInt32 - hr.toInt32).toInt64 * R) (0 : Int64)))]))
    refine own_by (fun t kk_ => XS.ifNo X53.here hx rfl (hb hby at_112) rfl ((if0 _ _).trans (flt (fun q => (own_f2 hB hhr hH) ((lw_lt _ _).mp q))).1) kk_) ?_
    show OwnG p e below s _ _ _ (T53.setTop (mkF m 115 #[.val (.int a), .val (.int b), .val (.long r), .second, .val (.int H.toInt32), .val (.int hr.toInt32), .val (.long R), .second, .val (.ref ob), .val (.long (R * H.toInt32.toInt64)), .second, .val (.long (0 : Int64)), .second, .val (.long ((H.toInt32 - hr.toInt32).toInt64 * R)), .second, .val (.long ((H.toInt32 - H.toInt32).toInt64 * R)), .second] []))
    refine own_by (fun t kk_ => XS.lload X53.here hx rfl (hb hby at_115) rfl  kk_) ?_
    show OwnG p e below s _ _ _ (T53.setTop (mkF m 117 #[.val (.int a), .val (.int b), .val (.long r), .second, .val (.int H.toInt32), .val (.int hr.toInt32), .val (.long R), .second, .val (.ref ob), .val (.long (R * H.toInt32.toInt64)), .second, .val (.long (0 : Int64)), .second, .val (.long ((H.toInt32 - hr.toInt32).toInt64 * R)), .second, .val (.long ((H.toInt32 - H.toInt32).toInt64 * R)), .second] [(.long ((H.toInt32 - hr.toInt32).toInt64 * R))]))
    refine own_by (fun t kk_ => XS.lload X53.here hx rfl (hb hby at_117) rfl  kk_) ?_
    show OwnG p e below s _ _ _ (T53.setTop (mkF m 119 #[.val (.int a), .val (.int b), .val (.long r), .second, .val (.int H.toInt32), .val (.int hr.toInt32), .val (.long R), .second, .val (.ref ob), .val (.long (R * H.toInt32.toInt64)), .second, .val (.long (0 : Int64)), .second, .val (.long ((H.toInt32 - hr.toInt32).toInt64 * R)), .second, .val (.long ((H.toInt32 - H.toInt32).toInt64 * R)), .second] [(.long (R * H.toInt32.toInt64)), (.long ((H.toInt32 - hr.toInt32).toInt64 * R))]))
    refine own_by (fun t kk_ => XS.lcmp X53.here hx rfl (hb hby at_119) rfl kk_) ?_
    show OwnG p e below s _ _ _ (T53.setTop (mkF m 120 #[.val (.int a), .val (.int b), .val (.long r), .second, .val (.int H.toInt32), .val (.int hr.toInt32), .val (.long R), .second, .val (.ref ob), .val (.long (R * H.toInt32.toInt64)), .second, .val (.long (0 : Int64)), .second, .val (.long ((H.toInt32 - hr.toInt32).toInt64 * R)), .second, .val (.long ((H.toInt32 - H.toInt32).toInt64 * R)), .second] [(.int (lcmpW ((H.toInt32 - hr.toInt32).toInt64 * R) (R * H.toInt32.toInt64)))]))
    refine own_by (fun t kk_ => XS.ifNo X53.here hx rfl (hb hby at_120) rfl ((if0 _ _).trans (flt (fun q => (own_f3 hB hhr hH) ((lw_gt _ _).mp q))).2.2.1) kk_) ?_
    show OwnG p e below s _ _ _ (T53.setTop (mkF m 123 #[.val (.int a), .val (.int b), .val (.long r), .second, .val (.int H.toInt32), .val (.int hr.toInt32), .val (.long R), .second, .val (.ref ob), .val (.long (R * H.toInt32.toInt64)), .second, .val (.long (0 : Int64)), .second, .val (.long ((H.toInt32 - hr.toInt32).toInt64 * R)), .second, .val (.long ((H.toInt32 - H.toInt32).toInt64 * R)), .second] []))
    refine own_by (fun t kk_ => XS.lload X53.here hx rfl (hb hby at_123) rfl  kk_) ?_
    show OwnG p e below s _ _ _ (T53.setTop (mkF m 125 #[.val (.int a), .val (.int b), .val (.long r), .second, .val (.int H.toInt32), .val (.int hr.toInt32), .val (.long R), .second, .val (.ref ob), .val (.long (R * H.toInt32.toInt64)), .second, .val (.long (0 : Int64)), .second, .val (.long ((H.toInt32 - hr.toInt32).toInt64 * R)), .second, .val (.long ((H.toInt32 - H.toInt32).toInt64 * R)), .second] [(.long ((H.toInt32 - H.toInt32).toInt64 * R))]))
    refine own_by (fun t kk_ => XS.lconst X53.here hx rfl (hb hby at_125) kk_) ?_
    show OwnG p e below s _ _ _ (T53.setTop (mkF m 126 #[.val (.int a), .val (.int b), .val (.long r), .second, .val (.int H.toInt32), .val (.int hr.toInt32), .val (.long R), .second, .val (.ref ob), .val (.long (R * H.toInt32.toInt64)), .second, .val (.long (0 : Int64)), .second, .val (.long ((H.toInt32 - hr.toInt32).toInt64 * R)), .second, .val (.long ((H.toInt32 - H.toInt32).toInt64 * R)), .second] [(.long (0 : Int64)), (.long ((H.toInt32 - H.toInt32).toInt64 * R))]))
    refine own_by (fun t kk_ => XS.lcmp X53.here hx rfl (hb hby at_126) rfl kk_) ?_
    show OwnG p e below s _ _ _ (T53.setTop (mkF m 127 #[.val (.int a), .val (.int b), .val (.long r), .second, .val (.int H.toInt32), .val (.int hr.toInt32), .val (.long R), .second, .val (.ref ob), .val (.long (R * H.toInt32.toInt64)), .second, .val (.long (0 : Int64)), .second, .val (.long ((H.toInt32 - hr.toInt32).toInt64 * R)), .second, .val (.long ((H.toInt32 - H.toInt32).toInt64 * R)), .second] [(.int (lcmpW ((H.toInt32 - H.toInt32).toInt64 * R) (0 : Int64)))]))
    refine own_by (fun t kk_ => XS.ifNo X53.here hx rfl (hb hby at_127) rfl ((if0 _ _).trans (teq ((lw_eq _ _).mpr (own_f4 hH))).2) kk_) ?_
    show OwnG p e below s _ _ _ (T53.setTop (mkF m 130 #[.val (.int a), .val (.int b), .val (.long r), .second, .val (.int H.toInt32), .val (.int hr.toInt32), .val (.long R), .second, .val (.ref ob), .val (.long (R * H.toInt32.toInt64)), .second, .val (.long (0 : Int64)), .second, .val (.long ((H.toInt32 - hr.toInt32).toInt64 * R)), .second, .val (.long ((H.toInt32 - H.toInt32).toInt64 * R)), .second] []))
    refine own_by (fun t kk_ => XS.iconst X53.here hx rfl (hb hby at_130) kk_) ?_
    show OwnG p e below s _ _ _ (T53.setTop (mkF m 131 #[.val (.int a), .val (.int b), .val (.long r), .second, .val (.int H.toInt32), .val (.int hr.toInt32), .val (.long R), .second, .val (.ref ob), .val (.long (R * H.toInt32.toInt64)), .second, .val (.long (0 : Int64)), .second, .val (.long ((H.toInt32 - hr.toInt32).toInt64 * R)), .second, .val (.long ((H.toInt32 - H.toInt32).toInt64 * R)), .second] [(.int (1 : Int32))]))
    refine own_by (fun t kk_ => XS.goto X53.here hx rfl (pc0 := 131) (pc' := 135) rfl (hb hby at_131) (by decide) (by decide) kk_) ?_
    show OwnG p e below s _ _ _ (T53.setTop (mkF m 135 #[.val (.int a), .val (.int b), .val (.long r), .second, .val (.int H.toInt32), .val (.int hr.toInt32), .val (.long R), .second, .val (.ref ob), .val (.long (R * H.toInt32.toInt64)), .second, .val (.long (0 : Int64)), .second, .val (.long ((H.toInt32 - hr.toInt32).toInt64 * R)), .second, .val (.long ((H.toInt32 - H.toInt32).toInt64 * R)), .second] [(.int (1 : Int32))]))
    exact own_outN X53 hx hret (by simp) hlk (hb hby at_135) rfl (⟨rfl, N53⟩) (by decide) (by decide)
  · show OwnG p e below s _ _ _ (T11.setTop (mkF m 53 #[.val (.int a), .val (.int b), .val (.long r), .second, .val (.int H.toInt32), .val (.int hr.toInt32), .val (.long R), .second, .val (.ref ob), .unset, .unset, .unset, .unset, .unset, .unset, .unset, .unset] [(.long R), (.int (0 : Int32)), (.ref ob)]))
    obtain ⟨cq63, kq63, q63a, q63b, q63c⟩ := isOf hZ (rfl : T11.heap = T11.heap) O11.1
    obtain ⟨_, _, ⟨T63, L63, k63, n63⟩, -, X63, ⟨Lc63, hQ63, l63, y63, z63⟩, st63⟩ := X11.virtualBack hx (y := (⟨"com/example/gasholder/gasholder/Execution", "schedule", "(IJ)Ljava/time/Duration;"⟩ : MethodName)) (z := (⟨"com/example/gasholder/gasholder/Execution", "schedule", "(IJ)Ljava/time/Duration;"⟩ : MethodName)) hown (mvT hZ (hw _ (List.mem_of_getElem? (i := 23) rfl))) (mvT hZ (hw _ (List.mem_of_getElem? (i := 24) rfl))) (notFace_of_selects (args := #[]) (mvT hZ (hw _ (List.mem_of_getElem? (i := 26) rfl)))) (mvT hZ (hw _ (List.mem_of_getElem? (i := 26) rfl))) (mvT hZ (hw _ (List.mem_of_getElem? (i := 25) rfl))) (by decide) (backOf (W := 0) (rm3p l Z a0 hw [] ob sa ea zd R sp H T11.heap n0 sz11 O11 SZ11 SP11 nas nae nse gg_ob g2 g3 hB hH1 hH hR0) hZ (hw _ (List.mem_of_getElem? (i := 27) rfl)) (hw _ (List.mem_of_getElem? (i := 5) rfl)) (by decide) (by decide)) q63a q63c (g := (mkF m 53 #[.val (.int a), .val (.int b), .val (.long r), .second, .val (.int H.toInt32), .val (.int hr.toInt32), .val (.long R), .second, .val (.ref ob), .unset, .unset, .unset, .unset, .unset, .unset, .unset, .unset] [(.long R), (.int (0 : Int32)), (.ref ob)])) rfl (by rw [hml]; rfl) (Steps.refl _) (argsL := [(.int (0 : Int32)), (.long R)]) (rest := []) (lenOf pd_6 rfl) rfl (by show 2 * 0 + _ ≤ _; exact Nat.le_of_eq rfl) (hb hby at_53) (fun _ _ => ⟨rfl, (rfl : T11.heap = T11.heap), (by decide : 0 + 1 + 2 + 0 ≤ _), (by decide : 0 + 7 + 4 + 0 ≤ _)⟩)
    dsimp only [Pt.U, Pt.locs, Pt.cells, Pt.slots] at X63 l63 y63 z63 st63 hQ63
    subst l63 y63 z63
    refine own_by (fun t kk_ => st63.trans kk_) ?_
    obtain ⟨rfl, N63q, O63⟩ := hQ63
    have N63 := Fr.app N11 N63q
    have sz63 : n0 ≤ T63.heap.size := Nat.le_trans g2 (Nat.le_of_lt O63.2.2.2.2.2.2.2.1.lt)
    show OwnG p e below s _ _ _ (T63.setTop (mkF m 56 #[.val (.int a), .val (.int b), .val (.long r), .second, .val (.int H.toInt32), .val (.int hr.toInt32), .val (.long R), .second, .val (.ref ob), .unset, .unset, .unset, .unset, .unset, .unset, .unset, .unset] [(.ref zd)]))
    refine own_by (fun t kk_ => XS.pop X63.here hx rfl (hb hby at_56) rfl rfl kk_) ?_
    show OwnG p e below s _ _ _ (T63.setTop (mkF m 57 #[.val (.int a), .val (.int b), .val (.long r), .second, .val (.int H.toInt32), .val (.int hr.toInt32), .val (.long R), .second, .val (.ref ob), .unset, .unset, .unset, .unset, .unset, .unset, .unset, .unset] []))
    refine own_by (fun t kk_ => XS.aload X63.here hx rfl (hb hby at_57) rfl rfl kk_) ?_
    show OwnG p e below s _ _ _ (T63.setTop (mkF m 59 #[.val (.int a), .val (.int b), .val (.long r), .second, .val (.int H.toInt32), .val (.int hr.toInt32), .val (.long R), .second, .val (.ref ob), .unset, .unset, .unset, .unset, .unset, .unset, .unset, .unset] [(.ref ob)]))
    obtain ⟨cq64, kq64, q64a, q64b, q64c⟩ := isOf hZ (rfl : T63.heap = T63.heap) O63.1
    obtain ⟨_, _, ⟨T64, L64, k64, n64⟩, -, X64, ⟨Lc64, hQ64, l64, y64, z64⟩, st64⟩ := X63.virtualBack hx (y := (⟨"com/example/gasholder/gasholder/Execution", "scheduled", "()J"⟩ : MethodName)) (z := (⟨"com/example/gasholder/gasholder/Execution", "scheduled", "()J"⟩ : MethodName)) hown (mvT hZ (hw _ (List.mem_of_getElem? (i := 55) rfl))) (mvT hZ (hw _ (List.mem_of_getElem? (i := 56) rfl))) (notFace_of_selects (args := #[]) (mvT hZ (hw _ (List.mem_of_getElem? (i := 58) rfl)))) (mvT hZ (hw _ (List.mem_of_getElem? (i := 58) rfl))) (mvT hZ (hw _ (List.mem_of_getElem? (i := 57) rfl))) (by decide) (backOf (W := 0) (rm9 l Z a0 hw [] ob sa ea R H 1 R (ownSet (fun _ => .long (0 : Int64)) 0 (.long 0)) (ownSet (fun _ => .long (0 : Int64)) 0 (.long (H.toInt32.toInt64 * R))) T63.heap n0 sz63 O63) hZ (hw _ (List.mem_of_getElem? (i := 59) rfl)) (hw _ (List.mem_of_getElem? (i := 5) rfl)) (by decide) (by decide)) q64a q64c (g := (mkF m 59 #[.val (.int a), .val (.int b), .val (.long r), .second, .val (.int H.toInt32), .val (.int hr.toInt32), .val (.long R), .second, .val (.ref ob), .unset, .unset, .unset, .unset, .unset, .unset, .unset, .unset] [(.ref ob)])) rfl (by rw [hml]; rfl) (Steps.refl _) (argsL := []) (rest := []) (lenOf pd_7 rfl) rfl (by show 2 * 0 + _ ≤ _; exact Nat.le_of_eq rfl) (hb hby at_59) (fun _ _ => ⟨rfl, (rfl : T63.heap = T63.heap), (by decide : 0 + 1 + 2 + 0 ≤ _), (by decide : 0 + 7 + 4 + 0 ≤ _)⟩)
    dsimp only [Pt.U, Pt.locs, Pt.cells, Pt.slots] at X64 l64 y64 z64 st64 hQ64
    subst l64 y64 z64
    refine own_by (fun t kk_ => st64.trans kk_) ?_
    obtain ⟨rfl, N64q, hh64⟩ := hQ64
    have N64 := Fr.app N63 N64q
    have f65 := O63.1
    rw [← hh64] at f65
    have f66 := O63.2.1
    rw [← hh64] at f66
    have f67 := O63.2.2.1
    rw [← hh64] at f67
    have f68 := O63.2.2.2.1
    rw [← hh64] at f68
    have f69 := O63.2.2.2.2.1
    rw [← hh64] at f69
    have f70 := O63.2.2.2.2.2.1
    rw [← hh64] at f70
    have f71 := O63.2.2.2.2.2.2.1
    rw [← hh64] at f71
    have f72 := O63.2.2.2.2.2.2.2.1
    rw [← hh64] at f72
    have f73 := O63.2.2.2.2.2.2.2.2
    rw [← hh64] at f73
    have sz64 : n0 ≤ T64.heap.size := by rw [hh64]; exact sz63
    have O64 := O63
    rw [← hh64] at O64
    show OwnG p e below s _ _ _ (T64.setTop (mkF m 62 #[.val (.int a), .val (.int b), .val (.long r), .second, .val (.int H.toInt32), .val (.int hr.toInt32), .val (.long R), .second, .val (.ref ob), .unset, .unset, .unset, .unset, .unset, .unset, .unset, .unset] [(.long R)]))
    refine own_by (fun t kk_ => XS.aload X64.here hx rfl (hb hby at_62) rfl rfl kk_) ?_
    show OwnG p e below s _ _ _ (T64.setTop (mkF m 64 #[.val (.int a), .val (.int b), .val (.long r), .second, .val (.int H.toInt32), .val (.int hr.toInt32), .val (.long R), .second, .val (.ref ob), .unset, .unset, .unset, .unset, .unset, .unset, .unset, .unset] [(.ref ob), (.long R)]))
    obtain ⟨cq74, kq74, q74a, q74b, q74c⟩ := isOf hZ (rfl : T64.heap = T64.heap) f65
    obtain ⟨_, _, ⟨T74, L74, k74, n74⟩, -, X74, ⟨Lc74, hQ74, l74, y74, z74⟩, st74⟩ := X64.virtualBack hx (y := (⟨"com/example/gasholder/gasholder/Execution", "partsPerKwh", "()J"⟩ : MethodName)) (z := (⟨"com/example/gasholder/gasholder/Execution", "partsPerKwh", "()J"⟩ : MethodName)) hown (mvT hZ (hw _ (List.mem_of_getElem? (i := 60) rfl))) (mvT hZ (hw _ (List.mem_of_getElem? (i := 61) rfl))) (notFace_of_selects (args := #[]) (mvT hZ (hw _ (List.mem_of_getElem? (i := 63) rfl)))) (mvT hZ (hw _ (List.mem_of_getElem? (i := 63) rfl))) (mvT hZ (hw _ (List.mem_of_getElem? (i := 62) rfl))) (by decide) (backOf (W := 2) (rm10 l Z a0 hw [] ob sa ea R H 1 R (ownSet (fun _ => .long (0 : Int64)) 0 (.long 0)) (ownSet (fun _ => .long (0 : Int64)) 0 (.long (H.toInt32.toInt64 * R))) T64.heap n0 sz64 O64) hZ (hw _ (List.mem_of_getElem? (i := 64) rfl)) (hw _ (List.mem_of_getElem? (i := 5) rfl)) (by decide) (by decide)) q74a q74c (g := (mkF m 64 #[.val (.int a), .val (.int b), .val (.long r), .second, .val (.int H.toInt32), .val (.int hr.toInt32), .val (.long R), .second, .val (.ref ob), .unset, .unset, .unset, .unset, .unset, .unset, .unset, .unset] [(.ref ob), (.long R)])) rfl (by rw [hml]; rfl) (Steps.refl _) (argsL := []) (rest := [(.long R)]) (lenOf pd_7 rfl) rfl (by show 2 * 0 + _ ≤ _; exact Nat.le_of_eq rfl) (hb hby at_64) (fun _ _ => ⟨rfl, (rfl : T64.heap = T64.heap), (by decide : 0 + 1 + 2 + 0 ≤ _), (by decide : 0 + 7 + 4 + 0 ≤ _)⟩)
    dsimp only [Pt.U, Pt.locs, Pt.cells, Pt.slots] at X74 l74 y74 z74 st74 hQ74
    subst l74 y74 z74
    refine own_by (fun t kk_ => st74.trans kk_) ?_
    obtain ⟨rfl, N74q, hh74⟩ := hQ74
    have N74 := Fr.app N64 N74q
    have f75 := f65
    rw [← hh74] at f75
    have f76 := f66
    rw [← hh74] at f76
    have f77 := f67
    rw [← hh74] at f77
    have f78 := f68
    rw [← hh74] at f78
    have f79 := f69
    rw [← hh74] at f79
    have f80 := f70
    rw [← hh74] at f80
    have f81 := f71
    rw [← hh74] at f81
    have f82 := f72
    rw [← hh74] at f82
    have f83 := f73
    rw [← hh74] at f83
    have sz74 : n0 ≤ T74.heap.size := by rw [hh74]; exact sz64
    have O74 := O64
    rw [← hh74] at O74
    show OwnG p e below s _ _ _ (T74.setTop (mkF m 67 #[.val (.int a), .val (.int b), .val (.long r), .second, .val (.int H.toInt32), .val (.int hr.toInt32), .val (.long R), .second, .val (.ref ob), .unset, .unset, .unset, .unset, .unset, .unset, .unset, .unset] [(.long H.toInt32.toInt64), (.long R)]))
    refine own_by (fun t kk_ => XS.lmul X74.here hx rfl (hb hby at_67) rfl kk_) ?_
    show OwnG p e below s _ _ _ (T74.setTop (mkF m 68 #[.val (.int a), .val (.int b), .val (.long r), .second, .val (.int H.toInt32), .val (.int hr.toInt32), .val (.long R), .second, .val (.ref ob), .unset, .unset, .unset, .unset, .unset, .unset, .unset, .unset] [(.long (R * H.toInt32.toInt64))]))
    refine own_by (fun t kk_ => XS.lstore X74.here hx rfl (hb hby at_68) rfl (l' := #[.val (.int a), .val (.int b), .val (.long r), .second, .val (.int H.toInt32), .val (.int hr.toInt32), .val (.long R), .second, .val (.ref ob), .val (.long (R * H.toInt32.toInt64)), .second, .unset, .unset, .unset, .unset, .unset, .unset]) rfl kk_) ?_
    show OwnG p e below s _ _ _ (T74.setTop (mkF m 70 #[.val (.int a), .val (.int b), .val (.long r), .second, .val (.int H.toInt32), .val (.int hr.toInt32), .val (.long R), .second, .val (.ref ob), .val (.long (R * H.toInt32.toInt64)), .second, .unset, .unset, .unset, .unset, .unset, .unset] []))
    refine own_by (fun t kk_ => XS.aload X74.here hx rfl (hb hby at_70) rfl rfl kk_) ?_
    show OwnG p e below s _ _ _ (T74.setTop (mkF m 72 #[.val (.int a), .val (.int b), .val (.long r), .second, .val (.int H.toInt32), .val (.int hr.toInt32), .val (.long R), .second, .val (.ref ob), .val (.long (R * H.toInt32.toInt64)), .second, .unset, .unset, .unset, .unset, .unset, .unset] [(.ref ob)]))
    refine own_by (fun t kk_ => XS.iload X74.here hx rfl (hb hby at_72) rfl  kk_) ?_
    show OwnG p e below s _ _ _ (T74.setTop (mkF m 74 #[.val (.int a), .val (.int b), .val (.long r), .second, .val (.int H.toInt32), .val (.int hr.toInt32), .val (.long R), .second, .val (.ref ob), .val (.long (R * H.toInt32.toInt64)), .second, .unset, .unset, .unset, .unset, .unset, .unset] [(.int hr.toInt32), (.ref ob)]))
    obtain ⟨cq84, kq84, q84a, q84b, q84c⟩ := isOf hZ (rfl : T74.heap = T74.heap) f75
    obtain ⟨_, _, ⟨T84, L84, k84, n84⟩, -, X84, ⟨Lc84, hQ84, l84, y84, z84⟩, st84⟩ := X74.virtualBack hx (y := (⟨"com/example/gasholder/gasholder/Execution", "flowedBy", "(I)J"⟩ : MethodName)) (z := (⟨"com/example/gasholder/gasholder/Execution", "flowedBy", "(I)J"⟩ : MethodName)) hown (mvT hZ (hw _ (List.mem_of_getElem? (i := 65) rfl))) (mvT hZ (hw _ (List.mem_of_getElem? (i := 29) rfl))) (notFace_of_selects (args := #[]) (mvT hZ (hw _ (List.mem_of_getElem? (i := 31) rfl)))) (mvT hZ (hw _ (List.mem_of_getElem? (i := 31) rfl))) (mvT hZ (hw _ (List.mem_of_getElem? (i := 30) rfl))) (by decide) (backOf (W := 0) (rm4p l Z a0 hw [] ob sa ea R H hr R (ownSet (fun _ => .long (0 : Int64)) 0 (.long 0)) (ownSet (fun _ => .long (0 : Int64)) 0 (.long (H.toInt32.toInt64 * R))) T74.heap n0 sz74 O74 rfl rfl hB hhr hH) hZ (hw _ (List.mem_of_getElem? (i := 32) rfl)) (hw _ (List.mem_of_getElem? (i := 5) rfl)) (by decide) (by decide)) q84a q84c (g := (mkF m 74 #[.val (.int a), .val (.int b), .val (.long r), .second, .val (.int H.toInt32), .val (.int hr.toInt32), .val (.long R), .second, .val (.ref ob), .val (.long (R * H.toInt32.toInt64)), .second, .unset, .unset, .unset, .unset, .unset, .unset] [(.int hr.toInt32), (.ref ob)])) rfl (by rw [hml]; rfl) (Steps.refl _) (argsL := [(.int hr.toInt32)]) (rest := []) (lenOf pd_4 rfl) rfl (by show 2 * 0 + _ ≤ _; exact Nat.le_of_eq rfl) (hb hby at_74) (fun _ _ => ⟨rfl, (rfl : T74.heap = T74.heap), (by decide : 0 + 1 + 2 + 0 ≤ _), (by decide : 0 + 7 + 4 + 0 ≤ _)⟩)
    dsimp only [Pt.U, Pt.locs, Pt.cells, Pt.slots] at X84 l84 y84 z84 st84 hQ84
    subst l84 y84 z84
    refine own_by (fun t kk_ => st84.trans kk_) ?_
    obtain ⟨rfl, N84q, hh84⟩ := hQ84
    have N84 := Fr.app N74 N84q
    have f85 := f75
    rw [← hh84] at f85
    have f86 := f76
    rw [← hh84] at f86
    have f87 := f77
    rw [← hh84] at f87
    have f88 := f78
    rw [← hh84] at f88
    have f89 := f79
    rw [← hh84] at f89
    have f90 := f80
    rw [← hh84] at f90
    have f91 := f81
    rw [← hh84] at f91
    have f92 := f82
    rw [← hh84] at f92
    have f93 := f83
    rw [← hh84] at f93
    have sz84 : n0 ≤ T84.heap.size := by rw [hh84]; exact sz74
    have O84 := O74
    rw [← hh84] at O84
    show OwnG p e below s _ _ _ (T84.setTop (mkF m 77 #[.val (.int a), .val (.int b), .val (.long r), .second, .val (.int H.toInt32), .val (.int hr.toInt32), .val (.long R), .second, .val (.ref ob), .val (.long (R * H.toInt32.toInt64)), .second, .unset, .unset, .unset, .unset, .unset, .unset] [(.long (hr.toInt32.toInt64 * R))]))
    refine own_by (fun t kk_ => XS.lstore X84.here hx rfl (hb hby at_77) rfl (l' := #[.val (.int a), .val (.int b), .val (.long r), .second, .val (.int H.toInt32), .val (.int hr.toInt32), .val (.long R), .second, .val (.ref ob), .val (.long (R * H.toInt32.toInt64)), .second, .val (.long (hr.toInt32.toInt64 * R)), .second, .unset, .unset, .unset, .unset]) rfl kk_) ?_
    show OwnG p e below s _ _ _ (T84.setTop (mkF m 79 #[.val (.int a), .val (.int b), .val (.long r), .second, .val (.int H.toInt32), .val (.int hr.toInt32), .val (.long R), .second, .val (.ref ob), .val (.long (R * H.toInt32.toInt64)), .second, .val (.long (hr.toInt32.toInt64 * R)), .second, .unset, .unset, .unset, .unset] []))
    refine own_by (fun t kk_ => XS.aload X84.here hx rfl (hb hby at_79) rfl rfl kk_) ?_
    show OwnG p e below s _ _ _ (T84.setTop (mkF m 81 #[.val (.int a), .val (.int b), .val (.long r), .second, .val (.int H.toInt32), .val (.int hr.toInt32), .val (.long R), .second, .val (.ref ob), .val (.long (R * H.toInt32.toInt64)), .second, .val (.long (hr.toInt32.toInt64 * R)), .second, .unset, .unset, .unset, .unset] [(.ref ob)]))
    refine own_by (fun t kk_ => XS.iload X84.here hx rfl (hb hby at_81) rfl  kk_) ?_
    show OwnG p e below s _ _ _ (T84.setTop (mkF m 83 #[.val (.int a), .val (.int b), .val (.long r), .second, .val (.int H.toInt32), .val (.int hr.toInt32), .val (.long R), .second, .val (.ref ob), .val (.long (R * H.toInt32.toInt64)), .second, .val (.long (hr.toInt32.toInt64 * R)), .second, .unset, .unset, .unset, .unset] [(.int hr.toInt32), (.ref ob)]))
    obtain ⟨cq94, kq94, q94a, q94b, q94c⟩ := isOf hZ (rfl : T84.heap = T84.heap) f85
    obtain ⟨_, _, ⟨T94, L94, k94, n94⟩, -, X94, ⟨Lc94, hQ94, l94, y94, z94⟩, st94⟩ := X84.virtualBack hx (y := (⟨"com/example/gasholder/gasholder/Execution", "mayStillFlowFrom", "(I)J"⟩ : MethodName)) (z := (⟨"com/example/gasholder/gasholder/Execution", "mayStillFlowFrom", "(I)J"⟩ : MethodName)) hown (mvT hZ (hw _ (List.mem_of_getElem? (i := 73) rfl))) (mvT hZ (hw _ (List.mem_of_getElem? (i := 74) rfl))) (notFace_of_selects (args := #[]) (mvT hZ (hw _ (List.mem_of_getElem? (i := 76) rfl)))) (mvT hZ (hw _ (List.mem_of_getElem? (i := 76) rfl))) (mvT hZ (hw _ (List.mem_of_getElem? (i := 75) rfl))) (by decide) (backOf (W := 0) (rm13 l Z a0 hw [] ob sa ea R H 1 R (ownSet (fun _ => .long (0 : Int64)) 0 (.long 0)) (ownSet (fun _ => .long (0 : Int64)) 0 (.long (H.toInt32.toInt64 * R))) hr T84.heap n0 sz84 O84) hZ (hw _ (List.mem_of_getElem? (i := 77) rfl)) (hw _ (List.mem_of_getElem? (i := 5) rfl)) (by decide) (by decide)) q94a q94c (g := (mkF m 83 #[.val (.int a), .val (.int b), .val (.long r), .second, .val (.int H.toInt32), .val (.int hr.toInt32), .val (.long R), .second, .val (.ref ob), .val (.long (R * H.toInt32.toInt64)), .second, .val (.long (hr.toInt32.toInt64 * R)), .second, .unset, .unset, .unset, .unset] [(.int hr.toInt32), (.ref ob)])) rfl (by rw [hml]; rfl) (Steps.refl _) (argsL := [(.int hr.toInt32)]) (rest := []) (lenOf pd_4 rfl) rfl (by show 2 * 0 + _ ≤ _; exact Nat.le_of_eq rfl) (hb hby at_83) (fun _ _ => ⟨rfl, (rfl : T84.heap = T84.heap), (by decide : 0 + 1 + 2 + 0 ≤ _), (by decide : 0 + 7 + 4 + 0 ≤ _)⟩)
    dsimp only [Pt.U, Pt.locs, Pt.cells, Pt.slots] at X94 l94 y94 z94 st94 hQ94
    subst l94 y94 z94
    refine own_by (fun t kk_ => st94.trans kk_) ?_
    obtain ⟨rfl, N94q, hh94⟩ := hQ94
    have N94 := Fr.app N84 N94q
    have f95 := f85
    rw [← hh94] at f95
    have f96 := f86
    rw [← hh94] at f96
    have f97 := f87
    rw [← hh94] at f97
    have f98 := f88
    rw [← hh94] at f98
    have f99 := f89
    rw [← hh94] at f99
    have f100 := f90
    rw [← hh94] at f100
    have f101 := f91
    rw [← hh94] at f101
    have f102 := f92
    rw [← hh94] at f102
    have f103 := f93
    rw [← hh94] at f103
    have sz94 : n0 ≤ T94.heap.size := by rw [hh94]; exact sz84
    have O94 := O84
    rw [← hh94] at O94
    show OwnG p e below s _ _ _ (T94.setTop (mkF m 86 #[.val (.int a), .val (.int b), .val (.long r), .second, .val (.int H.toInt32), .val (.int hr.toInt32), .val (.long R), .second, .val (.ref ob), .val (.long (R * H.toInt32.toInt64)), .second, .val (.long (hr.toInt32.toInt64 * R)), .second, .unset, .unset, .unset, .unset] [(.long ((H.toInt32 - hr.toInt32).toInt64 * R))]))
    refine own_by (fun t kk_ => XS.lstore X94.here hx rfl (hb hby at_86) rfl (l' := #[.val (.int a), .val (.int b), .val (.long r), .second, .val (.int H.toInt32), .val (.int hr.toInt32), .val (.long R), .second, .val (.ref ob), .val (.long (R * H.toInt32.toInt64)), .second, .val (.long (hr.toInt32.toInt64 * R)), .second, .val (.long ((H.toInt32 - hr.toInt32).toInt64 * R)), .second, .unset, .unset]) rfl kk_) ?_
    show OwnG p e below s _ _ _ (T94.setTop (mkF m 88 #[.val (.int a), .val (.int b), .val (.long r), .second, .val (.int H.toInt32), .val (.int hr.toInt32), .val (.long R), .second, .val (.ref ob), .val (.long (R * H.toInt32.toInt64)), .second, .val (.long (hr.toInt32.toInt64 * R)), .second, .val (.long ((H.toInt32 - hr.toInt32).toInt64 * R)), .second, .unset, .unset] []))
    refine own_by (fun t kk_ => XS.aload X94.here hx rfl (hb hby at_88) rfl rfl kk_) ?_
    show OwnG p e below s _ _ _ (T94.setTop (mkF m 90 #[.val (.int a), .val (.int b), .val (.long r), .second, .val (.int H.toInt32), .val (.int hr.toInt32), .val (.long R), .second, .val (.ref ob), .val (.long (R * H.toInt32.toInt64)), .second, .val (.long (hr.toInt32.toInt64 * R)), .second, .val (.long ((H.toInt32 - hr.toInt32).toInt64 * R)), .second, .unset, .unset] [(.ref ob)]))
    refine own_by (fun t kk_ => XS.iload X94.here hx rfl (hb hby at_90) rfl  kk_) ?_
    show OwnG p e below s _ _ _ (T94.setTop (mkF m 92 #[.val (.int a), .val (.int b), .val (.long r), .second, .val (.int H.toInt32), .val (.int hr.toInt32), .val (.long R), .second, .val (.ref ob), .val (.long (R * H.toInt32.toInt64)), .second, .val (.long (hr.toInt32.toInt64 * R)), .second, .val (.long ((H.toInt32 - hr.toInt32).toInt64 * R)), .second, .unset, .unset] [(.int H.toInt32), (.ref ob)]))
    obtain ⟨cq104, kq104, q104a, q104b, q104c⟩ := isOf hZ (rfl : T94.heap = T94.heap) f95
    obtain ⟨_, _, ⟨T104, L104, k104, n104⟩, -, X104, ⟨Lc104, hQ104, l104, y104, z104⟩, st104⟩ := X94.virtualBack hx (y := (⟨"com/example/gasholder/gasholder/Execution", "mayStillFlowFrom", "(I)J"⟩ : MethodName)) (z := (⟨"com/example/gasholder/gasholder/Execution", "mayStillFlowFrom", "(I)J"⟩ : MethodName)) hown (mvT hZ (hw _ (List.mem_of_getElem? (i := 73) rfl))) (mvT hZ (hw _ (List.mem_of_getElem? (i := 74) rfl))) (notFace_of_selects (args := #[]) (mvT hZ (hw _ (List.mem_of_getElem? (i := 76) rfl)))) (mvT hZ (hw _ (List.mem_of_getElem? (i := 76) rfl))) (mvT hZ (hw _ (List.mem_of_getElem? (i := 75) rfl))) (by decide) (backOf (W := 0) (rm13 l Z a0 hw [] ob sa ea R H 1 R (ownSet (fun _ => .long (0 : Int64)) 0 (.long 0)) (ownSet (fun _ => .long (0 : Int64)) 0 (.long (H.toInt32.toInt64 * R))) H T94.heap n0 sz94 O94) hZ (hw _ (List.mem_of_getElem? (i := 77) rfl)) (hw _ (List.mem_of_getElem? (i := 5) rfl)) (by decide) (by decide)) q104a q104c (g := (mkF m 92 #[.val (.int a), .val (.int b), .val (.long r), .second, .val (.int H.toInt32), .val (.int hr.toInt32), .val (.long R), .second, .val (.ref ob), .val (.long (R * H.toInt32.toInt64)), .second, .val (.long (hr.toInt32.toInt64 * R)), .second, .val (.long ((H.toInt32 - hr.toInt32).toInt64 * R)), .second, .unset, .unset] [(.int H.toInt32), (.ref ob)])) rfl (by rw [hml]; rfl) (Steps.refl _) (argsL := [(.int H.toInt32)]) (rest := []) (lenOf pd_4 rfl) rfl (by show 2 * 0 + _ ≤ _; exact Nat.le_of_eq rfl) (hb hby at_92) (fun _ _ => ⟨rfl, (rfl : T94.heap = T94.heap), (by decide : 0 + 1 + 2 + 0 ≤ _), (by decide : 0 + 7 + 4 + 0 ≤ _)⟩)
    dsimp only [Pt.U, Pt.locs, Pt.cells, Pt.slots] at X104 l104 y104 z104 st104 hQ104
    subst l104 y104 z104
    refine own_by (fun t kk_ => st104.trans kk_) ?_
    obtain ⟨rfl, N104q, hh104⟩ := hQ104
    have N104 := Fr.app N94 N104q
    have f105 := f95
    rw [← hh104] at f105
    have f106 := f96
    rw [← hh104] at f106
    have f107 := f97
    rw [← hh104] at f107
    have f108 := f98
    rw [← hh104] at f108
    have f109 := f99
    rw [← hh104] at f109
    have f110 := f100
    rw [← hh104] at f110
    have f111 := f101
    rw [← hh104] at f111
    have f112 := f102
    rw [← hh104] at f112
    have f113 := f103
    rw [← hh104] at f113
    have sz104 : n0 ≤ T104.heap.size := by rw [hh104]; exact sz94
    have O104 := O94
    rw [← hh104] at O104
    show OwnG p e below s _ _ _ (T104.setTop (mkF m 95 #[.val (.int a), .val (.int b), .val (.long r), .second, .val (.int H.toInt32), .val (.int hr.toInt32), .val (.long R), .second, .val (.ref ob), .val (.long (R * H.toInt32.toInt64)), .second, .val (.long (hr.toInt32.toInt64 * R)), .second, .val (.long ((H.toInt32 - hr.toInt32).toInt64 * R)), .second, .unset, .unset] [(.long ((H.toInt32 - H.toInt32).toInt64 * R))]))
    refine own_by (fun t kk_ => XS.lstore X104.here hx rfl (hb hby at_95) rfl (l' := #[.val (.int a), .val (.int b), .val (.long r), .second, .val (.int H.toInt32), .val (.int hr.toInt32), .val (.long R), .second, .val (.ref ob), .val (.long (R * H.toInt32.toInt64)), .second, .val (.long (hr.toInt32.toInt64 * R)), .second, .val (.long ((H.toInt32 - hr.toInt32).toInt64 * R)), .second, .val (.long ((H.toInt32 - H.toInt32).toInt64 * R)), .second]) rfl kk_) ?_
    show OwnG p e below s _ _ _ (T104.setTop (mkF m 97 #[.val (.int a), .val (.int b), .val (.long r), .second, .val (.int H.toInt32), .val (.int hr.toInt32), .val (.long R), .second, .val (.ref ob), .val (.long (R * H.toInt32.toInt64)), .second, .val (.long (hr.toInt32.toInt64 * R)), .second, .val (.long ((H.toInt32 - hr.toInt32).toInt64 * R)), .second, .val (.long ((H.toInt32 - H.toInt32).toInt64 * R)), .second] []))
    refine own_by (fun t kk_ => XS.lload X104.here hx rfl (hb hby at_97) rfl  kk_) ?_
    show OwnG p e below s _ _ _ (T104.setTop (mkF m 99 #[.val (.int a), .val (.int b), .val (.long r), .second, .val (.int H.toInt32), .val (.int hr.toInt32), .val (.long R), .second, .val (.ref ob), .val (.long (R * H.toInt32.toInt64)), .second, .val (.long (hr.toInt32.toInt64 * R)), .second, .val (.long ((H.toInt32 - hr.toInt32).toInt64 * R)), .second, .val (.long ((H.toInt32 - H.toInt32).toInt64 * R)), .second] [(.long (hr.toInt32.toInt64 * R))]))
    refine own_by (fun t kk_ => XS.lload X104.here hx rfl (hb hby at_99) rfl  kk_) ?_
    show OwnG p e below s _ _ _ (T104.setTop (mkF m 101 #[.val (.int a), .val (.int b), .val (.long r), .second, .val (.int H.toInt32), .val (.int hr.toInt32), .val (.long R), .second, .val (.ref ob), .val (.long (R * H.toInt32.toInt64)), .second, .val (.long (hr.toInt32.toInt64 * R)), .second, .val (.long ((H.toInt32 - hr.toInt32).toInt64 * R)), .second, .val (.long ((H.toInt32 - H.toInt32).toInt64 * R)), .second] [(.long ((H.toInt32 - hr.toInt32).toInt64 * R)), (.long (hr.toInt32.toInt64 * R))]))
    refine own_by (fun t kk_ => XS.ladd X104.here hx rfl (hb hby at_101) rfl kk_) ?_
    show OwnG p e below s _ _ _ (T104.setTop (mkF m 102 #[.val (.int a), .val (.int b), .val (.long r), .second, .val (.int H.toInt32), .val (.int hr.toInt32), .val (.long R), .second, .val (.ref ob), .val (.long (R * H.toInt32.toInt64)), .second, .val (.long (hr.toInt32.toInt64 * R)), .second, .val (.long ((H.toInt32 - hr.toInt32).toInt64 * R)), .second, .val (.long ((H.toInt32 - H.toInt32).toInt64 * R)), .second] [(.long ((hr.toInt32.toInt64 * R) + ((H.toInt32 - hr.toInt32).toInt64 * R)))]))
    refine own_by (fun t kk_ => XS.lload X104.here hx rfl (hb hby at_102) rfl  kk_) ?_
    show OwnG p e below s _ _ _ (T104.setTop (mkF m 104 #[.val (.int a), .val (.int b), .val (.long r), .second, .val (.int H.toInt32), .val (.int hr.toInt32), .val (.long R), .second, .val (.ref ob), .val (.long (R * H.toInt32.toInt64)), .second, .val (.long (hr.toInt32.toInt64 * R)), .second, .val (.long ((H.toInt32 - hr.toInt32).toInt64 * R)), .second, .val (.long ((H.toInt32 - H.toInt32).toInt64 * R)), .second] [(.long (R * H.toInt32.toInt64)), (.long ((hr.toInt32.toInt64 * R) + ((H.toInt32 - hr.toInt32).toInt64 * R)))]))
    refine own_by (fun t kk_ => XS.lcmp X104.here hx rfl (hb hby at_104) rfl kk_) ?_
    show OwnG p e below s _ _ _ (T104.setTop (mkF m 105 #[.val (.int a), .val (.int b), .val (.long r), .second, .val (.int H.toInt32), .val (.int hr.toInt32), .val (.long R), .second, .val (.ref ob), .val (.long (R * H.toInt32.toInt64)), .second, .val (.long (hr.toInt32.toInt64 * R)), .second, .val (.long ((H.toInt32 - hr.toInt32).toInt64 * R)), .second, .val (.long ((H.toInt32 - H.toInt32).toInt64 * R)), .second] [(.int (lcmpW ((hr.toInt32.toInt64 * R) + ((H.toInt32 - hr.toInt32).toInt64 * R)) (R * H.toInt32.toInt64)))]))
    refine own_by (fun t kk_ => XS.ifNo X104.here hx rfl (hb hby at_105) rfl ((if0 _ _).trans (teq ((lw_eq _ _).mpr (own_f1 hB hhr hH))).2) kk_) ?_
    show OwnG p e below s _ _ _ (T104.setTop (mkF m 108 #[.val (.int a), .val (.int b), .val (.long r), .second, .val (.int H.toInt32), .val (.int hr.toInt32), .val (.long R), .second, .val (.ref ob), .val (.long (R * H.toInt32.toInt64)), .second, .val (.long (hr.toInt32.toInt64 * R)), .second, .val (.long ((H.toInt32 - hr.toInt32).toInt64 * R)), .second, .val (.long ((H.toInt32 - H.toInt32).toInt64 * R)), .second] []))
    refine own_by (fun t kk_ => XS.lload X104.here hx rfl (hb hby at_108) rfl  kk_) ?_
    show OwnG p e below s _ _ _ (T104.setTop (mkF m 110 #[.val (.int a), .val (.int b), .val (.long r), .second, .val (.int H.toInt32), .val (.int hr.toInt32), .val (.long R), .second, .val (.ref ob), .val (.long (R * H.toInt32.toInt64)), .second, .val (.long (hr.toInt32.toInt64 * R)), .second, .val (.long ((H.toInt32 - hr.toInt32).toInt64 * R)), .second, .val (.long ((H.toInt32 - H.toInt32).toInt64 * R)), .second] [(.long ((H.toInt32 - hr.toInt32).toInt64 * R))]))
    refine own_by (fun t kk_ => XS.lconst X104.here hx rfl (hb hby at_110) kk_) ?_
    show OwnG p e below s _ _ _ (T104.setTop (mkF m 111 #[.val (.int a), .val (.int b), .val (.long r), .second, .val (.int H.toInt32), .val (.int hr.toInt32), .val (.long R), .second, .val (.ref ob), .val (.long (R * H.toInt32.toInt64)), .second, .val (.long (hr.toInt32.toInt64 * R)), .second, .val (.long ((H.toInt32 - hr.toInt32).toInt64 * R)), .second, .val (.long ((H.toInt32 - H.toInt32).toInt64 * R)), .second] [(.long (0 : Int64)), (.long ((H.toInt32 - hr.toInt32).toInt64 * R))]))
    refine own_by (fun t kk_ => XS.lcmp X104.here hx rfl (hb hby at_111) rfl kk_) ?_
    show OwnG p e below s _ _ _ (T104.setTop (mkF m 112 #[.val (.int a), .val (.int b), .val (.long r), .second, .val (.int H.toInt32), .val (.int hr.toInt32), .val (.long R), .second, .val (.ref ob), .val (.long (R * H.toInt32.toInt64)), .second, .val (.long (hr.toInt32.toInt64 * R)), .second, .val (.long ((H.toInt32 - hr.toInt32).toInt64 * R)), .second, .val (.long ((H.toInt32 - H.toInt32).toInt64 * R)), .second] [(.int (lcmpW ((H.toInt32 - hr.toInt32).toInt64 * R) (0 : Int64)))]))
    refine own_by (fun t kk_ => XS.ifNo X104.here hx rfl (hb hby at_112) rfl ((if0 _ _).trans (flt (fun q => (own_f2 hB hhr hH) ((lw_lt _ _).mp q))).1) kk_) ?_
    show OwnG p e below s _ _ _ (T104.setTop (mkF m 115 #[.val (.int a), .val (.int b), .val (.long r), .second, .val (.int H.toInt32), .val (.int hr.toInt32), .val (.long R), .second, .val (.ref ob), .val (.long (R * H.toInt32.toInt64)), .second, .val (.long (hr.toInt32.toInt64 * R)), .second, .val (.long ((H.toInt32 - hr.toInt32).toInt64 * R)), .second, .val (.long ((H.toInt32 - H.toInt32).toInt64 * R)), .second] []))
    refine own_by (fun t kk_ => XS.lload X104.here hx rfl (hb hby at_115) rfl  kk_) ?_
    show OwnG p e below s _ _ _ (T104.setTop (mkF m 117 #[.val (.int a), .val (.int b), .val (.long r), .second, .val (.int H.toInt32), .val (.int hr.toInt32), .val (.long R), .second, .val (.ref ob), .val (.long (R * H.toInt32.toInt64)), .second, .val (.long (hr.toInt32.toInt64 * R)), .second, .val (.long ((H.toInt32 - hr.toInt32).toInt64 * R)), .second, .val (.long ((H.toInt32 - H.toInt32).toInt64 * R)), .second] [(.long ((H.toInt32 - hr.toInt32).toInt64 * R))]))
    refine own_by (fun t kk_ => XS.lload X104.here hx rfl (hb hby at_117) rfl  kk_) ?_
    show OwnG p e below s _ _ _ (T104.setTop (mkF m 119 #[.val (.int a), .val (.int b), .val (.long r), .second, .val (.int H.toInt32), .val (.int hr.toInt32), .val (.long R), .second, .val (.ref ob), .val (.long (R * H.toInt32.toInt64)), .second, .val (.long (hr.toInt32.toInt64 * R)), .second, .val (.long ((H.toInt32 - hr.toInt32).toInt64 * R)), .second, .val (.long ((H.toInt32 - H.toInt32).toInt64 * R)), .second] [(.long (R * H.toInt32.toInt64)), (.long ((H.toInt32 - hr.toInt32).toInt64 * R))]))
    refine own_by (fun t kk_ => XS.lcmp X104.here hx rfl (hb hby at_119) rfl kk_) ?_
    show OwnG p e below s _ _ _ (T104.setTop (mkF m 120 #[.val (.int a), .val (.int b), .val (.long r), .second, .val (.int H.toInt32), .val (.int hr.toInt32), .val (.long R), .second, .val (.ref ob), .val (.long (R * H.toInt32.toInt64)), .second, .val (.long (hr.toInt32.toInt64 * R)), .second, .val (.long ((H.toInt32 - hr.toInt32).toInt64 * R)), .second, .val (.long ((H.toInt32 - H.toInt32).toInt64 * R)), .second] [(.int (lcmpW ((H.toInt32 - hr.toInt32).toInt64 * R) (R * H.toInt32.toInt64)))]))
    refine own_by (fun t kk_ => XS.ifNo X104.here hx rfl (hb hby at_120) rfl ((if0 _ _).trans (flt (fun q => (own_f3 hB hhr hH) ((lw_gt _ _).mp q))).2.2.1) kk_) ?_
    show OwnG p e below s _ _ _ (T104.setTop (mkF m 123 #[.val (.int a), .val (.int b), .val (.long r), .second, .val (.int H.toInt32), .val (.int hr.toInt32), .val (.long R), .second, .val (.ref ob), .val (.long (R * H.toInt32.toInt64)), .second, .val (.long (hr.toInt32.toInt64 * R)), .second, .val (.long ((H.toInt32 - hr.toInt32).toInt64 * R)), .second, .val (.long ((H.toInt32 - H.toInt32).toInt64 * R)), .second] []))
    refine own_by (fun t kk_ => XS.lload X104.here hx rfl (hb hby at_123) rfl  kk_) ?_
    show OwnG p e below s _ _ _ (T104.setTop (mkF m 125 #[.val (.int a), .val (.int b), .val (.long r), .second, .val (.int H.toInt32), .val (.int hr.toInt32), .val (.long R), .second, .val (.ref ob), .val (.long (R * H.toInt32.toInt64)), .second, .val (.long (hr.toInt32.toInt64 * R)), .second, .val (.long ((H.toInt32 - hr.toInt32).toInt64 * R)), .second, .val (.long ((H.toInt32 - H.toInt32).toInt64 * R)), .second] [(.long ((H.toInt32 - H.toInt32).toInt64 * R))]))
    refine own_by (fun t kk_ => XS.lconst X104.here hx rfl (hb hby at_125) kk_) ?_
    show OwnG p e below s _ _ _ (T104.setTop (mkF m 126 #[.val (.int a), .val (.int b), .val (.long r), .second, .val (.int H.toInt32), .val (.int hr.toInt32), .val (.long R), .second, .val (.ref ob), .val (.long (R * H.toInt32.toInt64)), .second, .val (.long (hr.toInt32.toInt64 * R)), .second, .val (.long ((H.toInt32 - hr.toInt32).toInt64 * R)), .second, .val (.long ((H.toInt32 - H.toInt32).toInt64 * R)), .second] [(.long (0 : Int64)), (.long ((H.toInt32 - H.toInt32).toInt64 * R))]))
    refine own_by (fun t kk_ => XS.lcmp X104.here hx rfl (hb hby at_126) rfl kk_) ?_
    show OwnG p e below s _ _ _ (T104.setTop (mkF m 127 #[.val (.int a), .val (.int b), .val (.long r), .second, .val (.int H.toInt32), .val (.int hr.toInt32), .val (.long R), .second, .val (.ref ob), .val (.long (R * H.toInt32.toInt64)), .second, .val (.long (hr.toInt32.toInt64 * R)), .second, .val (.long ((H.toInt32 - hr.toInt32).toInt64 * R)), .second, .val (.long ((H.toInt32 - H.toInt32).toInt64 * R)), .second] [(.int (lcmpW ((H.toInt32 - H.toInt32).toInt64 * R) (0 : Int64)))]))
    refine own_by (fun t kk_ => XS.ifNo X104.here hx rfl (hb hby at_127) rfl ((if0 _ _).trans (teq ((lw_eq _ _).mpr (own_f4 hH))).2) kk_) ?_
    show OwnG p e below s _ _ _ (T104.setTop (mkF m 130 #[.val (.int a), .val (.int b), .val (.long r), .second, .val (.int H.toInt32), .val (.int hr.toInt32), .val (.long R), .second, .val (.ref ob), .val (.long (R * H.toInt32.toInt64)), .second, .val (.long (hr.toInt32.toInt64 * R)), .second, .val (.long ((H.toInt32 - hr.toInt32).toInt64 * R)), .second, .val (.long ((H.toInt32 - H.toInt32).toInt64 * R)), .second] []))
    refine own_by (fun t kk_ => XS.iconst X104.here hx rfl (hb hby at_130) kk_) ?_
    show OwnG p e below s _ _ _ (T104.setTop (mkF m 131 #[.val (.int a), .val (.int b), .val (.long r), .second, .val (.int H.toInt32), .val (.int hr.toInt32), .val (.long R), .second, .val (.ref ob), .val (.long (R * H.toInt32.toInt64)), .second, .val (.long (hr.toInt32.toInt64 * R)), .second, .val (.long ((H.toInt32 - hr.toInt32).toInt64 * R)), .second, .val (.long ((H.toInt32 - H.toInt32).toInt64 * R)), .second] [(.int (1 : Int32))]))
    refine own_by (fun t kk_ => XS.goto X104.here hx rfl (pc0 := 131) (pc' := 135) rfl (hb hby at_131) (by decide) (by decide) kk_) ?_
    show OwnG p e below s _ _ _ (T104.setTop (mkF m 135 #[.val (.int a), .val (.int b), .val (.long r), .second, .val (.int H.toInt32), .val (.int hr.toInt32), .val (.long R), .second, .val (.ref ob), .val (.long (R * H.toInt32.toInt64)), .second, .val (.long (hr.toInt32.toInt64 * R)), .second, .val (.long ((H.toInt32 - hr.toInt32).toInt64 * R)), .second, .val (.long ((H.toInt32 - H.toInt32).toInt64 * R)), .second] [(.int (1 : Int32))]))
    exact own_outN X104 hx hret (by simp) hlk (hb hby at_135) rfl (⟨rfl, N104⟩) (by decide) (by decide)
theorem own_sets {tb : Tables} {e : Env} {args : Array Value} {s : State} (h : rest_1 tb e args s) : (Jvm.Cond.initializedFor "java/time/Duration" "ZERO" "Ljava/time/Duration;").before args s = true ∧ (Jvm.Cond.exactly (Jvm.Term.static "java/time/Duration" "ZERO" "Ljava/time/Duration;") "java/time/Duration").before args s = true := by
  have h' := Cond.before_iff.mp (show rest_1_c.before args s = true from h)
  obtain ⟨-, h1⟩ := and_e h'
  obtain ⟨h2, h3⟩ := and_e h1
  obtain ⟨h4, -⟩ := and_e h3
  exact ⟨Cond.before_iff.mpr h2, Cond.before_iff.mpr h4⟩
set_option maxRecDepth 65536 in
set_option maxHeartbeats 40000000 in
theorem comes_1 {Post : Tables → Env → Array Value → State → Outcome → State → Prop} (hpost : ∀ tb e args s v u, (limb_1_1.after args s (.returned v) u = true ∧ limb_1_2.after args s (.returned v) u = true ∧ True) → FrameEnd s (.returned v) u (Jvm.fieldLocs frame_1_writes args s ++ Jvm.arrayLocs frame_1_arrays args s ++ Jvm.staticLocs frame_1_statics s) 16 128 → Post tb e args s (.returned v) u) :
    ArmFor flags0 classFile x code maxLocals ret World_1 tables_1 room_1 Calls_1 rest_1 Pre_1 Post := by
  intro l hfl _ _ p e ha hc hk s m args below hf hA hF happ hP
  obtain ⟨hcalls, hrest, hpre⟩ := hP
  obtain ⟨-, -, -, hnamed, -, -, -, hat⟩ := (Spec.applies_iff hf).mp happ
  obtain ⟨hg, hn⟩ := and_e (Cond.before_iff.mp (show (Jvm.Cond.and given_1 narrow_1).before args s = true from hpre))
  obtain ⟨gc, gr0⟩ := and_e hg
  obtain ⟨ga0, gr1⟩ := and_e gr0
  obtain ⟨ga1, gr2⟩ := and_e gr1
  obtain ⟨w0, w1, w2, rfl⟩ : ∃ w0 w1 w2 : Value, args = #[w0, w1, w2] := by
    have hs : args.size = 3 := by simpa [Cond.value, given_1] using gc
    obtain ⟨L⟩ := args
    match L, hs with
    | [w0, w1, w2], _ => exact ⟨w0, w1, w2, rfl⟩
  have hw := fun d (hd : d ∈ tables_1) => atoms_spec (ws := Jvm.Cond.code x code maxLocals ret :: tables_1) hat d (List.mem_cons_of_mem _ hd)
  obtain ⟨i0, ei0⟩ := is_v ga0
  obtain rfl : w0 = (.int i0) := Option.some.inj ei0
  obtain ⟨i1, ei1⟩ := is_v ga1
  obtain rfl : w1 = (.int i1) := Option.some.inj ei1
  obtain ⟨i2, ei2⟩ := isL_v gr2
  obtain rfl : w2 = (.long i2) := Option.some.inj ei2
  have hfit : Fit s := fun {y c} hc i hi => by
    obtain ⟨ha, rfl⟩ := Array.getElem?_eq_some_iff.mp hc
    have q := List.all_eq_true.mp ((Array.all_eq_true_iff_forall_mem.mp hF) _ (Array.getElem_mem ha)) i (List.mem_range.mpr hi)
    simpa [Array.getElem?_eq_getElem hi] using q
  obtain ⟨vs, es, fs⟩ := static_fit hfit (hw _ (List.mem_of_getElem? (i := 40) rfl)) (ty := .long) (by decide)
  obtain ⟨sp, rfl⟩ : ∃ sp, vs = .long sp := by cases vs <;> simp [fits] at fs ⊢
  have SP : Sta s s.heap "com/example/gasholder/gasholder/Execution" "SECONDS_PER_HOUR" "J" (.long sp) := Sta.start es (Or.inr ⟨(hw _ (List.mem_of_getElem? (i := 5) rfl)), (hw _ (List.mem_of_getElem? (i := 40) rfl))⟩)
  have hsets := own_sets hrest
  obtain ⟨zd, ez⟩ := exa_v (Cond.before_iff.mp hsets.2)
  have SZ : Sta s s.heap "java/time/Duration" "ZERO" "Ljava/time/Duration;" (.ref zd) := Sta.start ez (Or.inl hsets.1)
  obtain ⟨n, o, h1, h2, h3, _, L, rfl, ⟨rfl, N⟩, hq⟩ := rm0 l s _ hw tables_1 i0 i1 i2 sp zd s.heap s.heap.size (Nat.le_refl _) SZ SP p e ha hc hk s m _ below hf ((Spec.applies_iff_loose hf).mp happ).1 ⟨rfl, State.Warmed39.refl s, rfl⟩ trivial
  refine ⟨n, _, h1, h2, h3, hpost _ _ _ _ _ _ ⟨Cond.after_iff.mpr rfl, Cond.after_iff.mpr (eq_i res_at (Term.int_eval (1)) rfl), trivial⟩ ⟨hq.1, hq.2.1, (hq.2.2.sift fun y hy => Or.inr (N y hy)).mono (by decide) (by decide)⟩⟩
theorem main_1_1 : Claimed_1_1 := comes_1 fun _ _ _ _ _ _ h hF => ⟨h.1, hF⟩
theorem main_1_2 : Claimed_1_2 := comes_1 fun _ _ _ _ _ _ h hF => ⟨h.2.1, hF⟩
end Jvm.Pilot.@@N@@
namespace Jvm.Pilot.@@N@@
open Jvm Jvm.ClassFile Sem Op Lib Jvm.Free Jvm.Stand Jvm.Pilot.@@N@@.Jvm.D
/-! MADE BY PROGRAM (witnessworld.py) out of the Statement's table words and the real class files: 17 classes; the members and pool entries that the words name. The judged class is class 1, her method 1. -/
namespace start1
open Jvm.ClassFile
def u (s : String) : CpInfo := .utf8 (stringToUtf16 s)
/-- a pool by its gaps: so many unusable entries, then the entry; so many at the end -/
def gap : Nat → List CpInfo → List CpInfo
  | 0, r => r
  | n + 1, r => .unusable :: gap n r
def poolList (es : List (Nat × CpInfo)) (last : Nat) : List CpInfo := es.foldr (fun e r => gap e.1 (e.2 :: r)) (gap last [])
def pool (es : List (Nat × CpInfo)) (last : Nat) : Array CpInfo := ⟨poolList es last⟩
def fileOf (pool : Array CpInfo) (this : Nat) (attrs : Array Attribute := #[]) (ms : Array MethodInfo := #[]) (fl : Nat := 33) (sup : Nat := 0) (ifs : Array Nat := #[]) (fds : Array FieldInfo := #[]) : ClassFile where
  minorVersion := 0
  majorVersion := 65
  constantPool := pool
  accessFlags := fl
  thisClass := this
  superClass := sup
  interfaces := ifs
  fields := fds
  methods := ms
  attributes := attrs
def plain (name : String) (sup : Option ClassId) : Class where
  name := name
  kind := .ordinary
  loader := none
  accessFlags := 33
  super := sup
  interfaces := #[]
  cf := none
  fields := #[]
  methods := #[]
  instanceTypes := #[]
  staticTypes := #[]
  resolved := #[]
  callSites := []
  init := .initialized
  statics := none
  mirror := none

def pool0 : Array CpInfo := pool [(5, u "<init>"), (0, u "()V"), (1, .class_ 10), (1, u "java/lang/Object")] 113

def k0c0 : Code := { maxStack := 0, maxLocals := 1, code := object_method_1_code, exceptionTable := #[], attributes := #[] }
def k0m0 : Method := { name := "<init>", desc := "()V", sig := { parameters := [], returnType := none }, accessFlags := 1, code := some k0c0 }
/-- java/lang/Object -/
def k0 : Class := { plain "java/lang/Object" none with
  accessFlags := 33
  interfaces := #[]
  cf := some (fileOf pool0 8 #[] #[{ accessFlags := 1, nameIndex := 5, descriptorIndex := 6, attributes := #[] }] 33 0 #[] #[])
  fields := #[]
  methods := #[k0m0]
  instanceTypes := #[]
  staticTypes := #[]
  resolved := Array.replicate 124 none
  statics := none }

def pool1 : Array CpInfo := pool [(2, .class_ 4), (1, u "java/lang/Object"), (0, u "<init>"), (0, u "()V"), (0, .integer 2147483647), (2, .long 9223372036854775807), (1, .long 368934881474191033), (1, .class_ 15), (0, u "com/example/gasholder/gasholder/Execution"), (0, .methodref 14 17), (0, .nameAndType 5 18), (0, u "(JII)V"), (0, .methodref 14 20), (0, .nameAndType 21 22), (0, u "schedule"), (0, u "(IJ)Ljava/time/Duration;"), (0, .methodref 14 24), (0, .nameAndType 25 26), (0, u "scheduled"), (0, u "()J"), (0, .methodref 14 28), (0, .nameAndType 29 26), (0, u "partsPerKwh"), (0, .methodref 14 31), (0, .nameAndType 32 33), (0, u "flowedBy"), (0, u "(I)J"), (0, .methodref 14 35), (0, .nameAndType 36 33), (0, u "mayStillFlowFrom"), (0, .class_ 38), (0, u "com/example/gasholder/gasholder/ExecutionMayStillFlowFromPinLaw"), (2, u "law"), (0, u "(IIJ)Z")] 3

def k1m0 : Method := { name := "<init>", desc := "()V", sig := { parameters := [], returnType := none }, accessFlags := 1, code := none }
def k1c1 : Code := { maxStack := 6, maxLocals := 17, code := code, exceptionTable := #[], attributes := #[] }
def k1m1 : Method := { name := "law", desc := "(IIJ)Z", sig := { parameters := [.int, .int, .long], returnType := some .boolean }, accessFlags := 9, code := some k1c1 }
/-- com/example/gasholder/gasholder/ExecutionMayStillFlowFromPinLaw -/
def k1 : Class := { plain "com/example/gasholder/gasholder/ExecutionMayStillFlowFromPinLaw" (some 0) with
  accessFlags := 49
  interfaces := #[]
  cf := some (fileOf pool1 37 #[] #[{ accessFlags := 1, nameIndex := 5, descriptorIndex := 6, attributes := #[] }, { accessFlags := 9, nameIndex := 41, descriptorIndex := 42, attributes := #[] }] 49 2 #[] #[])
  fields := #[]
  methods := #[k1m0, k1m1]
  instanceTypes := #[]
  staticTypes := #[]
  resolved := Array.replicate 46 none
  statics := none }

def pool2 : Array CpInfo := pool [(1, .methodref 2 3), (0, .class_ 4), (0, .nameAndType 5 6), (0, u "java/lang/Object"), (0, u "<init>"), (0, u "()V"), (0, .fieldref 8 9), (0, .class_ 10), (0, .nameAndType 11 12), (0, u "com/example/gasholder/gasholder/Execution"), (0, u "starts"), (0, u "[J"), (0, .fieldref 8 14), (0, .nameAndType 15 12), (0, u "ends"), (0, .fieldref 8 17), (0, .nameAndType 18 19), (0, u "rate"), (0, u "J"), (0, .fieldref 8 21), (0, .nameAndType 22 23), (0, u "hours"), (0, u "I"), (0, .fieldref 8 25), (0, .nameAndType 26 23), (0, u "dayHours"), (0, .fieldref 8 28), (0, .nameAndType 29 19), (0, u "schedule"), (0, .fieldref 8 31), (0, .nameAndType 32 23), (0, u "runs"), (0, .methodref 34 35), (0, .class_ 36), (0, .nameAndType 37 38), (0, u "java/lang/Math"), (0, u "min"), (0, u "(JJ)J"), (0, .methodref 34 40), (0, .nameAndType 41 38), (0, u "max"), (0, .methodref 8 43), (0, .nameAndType 44 45), (0, u "flowedBy"), (0, u "(I)J"), (6, .methodref 8 53), (0, .nameAndType 54 55), (0, u "nearestSecond"), (0, u "(J)Ljava/time/Duration;"), (19, .fieldref 8 76), (0, .nameAndType 77 19), (0, u "SECONDS_PER_HOUR"), (0, .methodref 79 80), (0, .class_ 81), (0, .nameAndType 82 38), (0, u "com/example/gasholder/gasholder/Fraction"), (0, u "nearest"), (0, .methodref 84 85), (0, .class_ 86), (0, .nameAndType 87 55), (0, u "java/time/Duration"), (0, u "ofSeconds"), (6, u "()J"), (0, u "(JII)V"), (2, u "partsPerKwh"), (0, u "scheduled"), (1, u "mayStillFlowFrom"), (0, u "(IJ)Ljava/time/Duration;")] 8

def k2c0 : Code := { maxStack := 3, maxLocals := 5, code := prog_8_method_1_code, exceptionTable := #[], attributes := #[] }
def k2m0 : Method := { name := "<init>", desc := "(JII)V", sig := { parameters := [.long, .int, .int], returnType := none }, accessFlags := 0, code := some k2c0 }
def k2c1 : Code := { maxStack := 2, maxLocals := 1, code := prog_8_method_2_code, exceptionTable := #[], attributes := #[] }
def k2m1 : Method := { name := "partsPerKwh", desc := "()J", sig := { parameters := [], returnType := some .long }, accessFlags := 0, code := some k2c1 }
def k2c2 : Code := { maxStack := 2, maxLocals := 1, code := prog_8_method_3_code, exceptionTable := #[], attributes := #[] }
def k2m2 : Method := { name := "scheduled", desc := "()J", sig := { parameters := [], returnType := some .long }, accessFlags := 0, code := some k2c2 }
def k2c3 : Code := { maxStack := 8, maxLocals := 7, code := prog_8_method_4_code, exceptionTable := #[], attributes := #[] }
def k2m3 : Method := { name := "flowedBy", desc := "(I)J", sig := { parameters := [.int], returnType := some .long }, accessFlags := 0, code := some k2c3 }
def k2c4 : Code := { maxStack := 4, maxLocals := 2, code := prog_8_method_5_code, exceptionTable := #[], attributes := #[] }
def k2m4 : Method := { name := "mayStillFlowFrom", desc := "(I)J", sig := { parameters := [.int], returnType := some .long }, accessFlags := 0, code := some k2c4 }
def k2c5 : Code := { maxStack := 6, maxLocals := 11, code := prog_8_method_6_code, exceptionTable := #[], attributes := #[] }
def k2m5 : Method := { name := "schedule", desc := "(IJ)Ljava/time/Duration;", sig := { parameters := [.int, .long], returnType := some (.object "java/time/Duration") }, accessFlags := 0, code := some k2c5 }
def k2c6 : Code := { maxStack := 6, maxLocals := 7, code := prog_8_method_8_code, exceptionTable := #[], attributes := #[] }
def k2m6 : Method := { name := "nearestSecond", desc := "(J)Ljava/time/Duration;", sig := { parameters := [.long], returnType := some (.object "java/time/Duration") }, accessFlags := 2, code := some k2c6 }
/-- com/example/gasholder/gasholder/Execution -/
def k2 : Class := { plain "com/example/gasholder/gasholder/Execution" (some 0) with
  accessFlags := 32
  interfaces := #[]
  cf := some (fileOf pool2 8 #[] #[{ accessFlags := 0, nameIndex := 5, descriptorIndex := 95, attributes := #[] }, { accessFlags := 0, nameIndex := 98, descriptorIndex := 94, attributes := #[] }, { accessFlags := 0, nameIndex := 99, descriptorIndex := 94, attributes := #[] }, { accessFlags := 0, nameIndex := 44, descriptorIndex := 45, attributes := #[] }, { accessFlags := 0, nameIndex := 101, descriptorIndex := 45, attributes := #[] }, { accessFlags := 0, nameIndex := 29, descriptorIndex := 102, attributes := #[] }, { accessFlags := 2, nameIndex := 54, descriptorIndex := 55, attributes := #[] }] 32 2 #[] #[{ accessFlags := 26, nameIndex := 77, descriptorIndex := 19, attributes := #[] }, { accessFlags := 18, nameIndex := 18, descriptorIndex := 19, attributes := #[] }, { accessFlags := 18, nameIndex := 22, descriptorIndex := 23, attributes := #[] }, { accessFlags := 18, nameIndex := 26, descriptorIndex := 23, attributes := #[] }, { accessFlags := 2, nameIndex := 11, descriptorIndex := 12, attributes := #[] }, { accessFlags := 2, nameIndex := 15, descriptorIndex := 12, attributes := #[] }, { accessFlags := 2, nameIndex := 32, descriptorIndex := 23, attributes := #[] }, { accessFlags := 2, nameIndex := 29, descriptorIndex := 19, attributes := #[] }])
  fields := #[{ name := "SECONDS_PER_HOUR", type := .long, accessFlags := 26, slot := 0, constantValue := 0 }, { name := "rate", type := .long, accessFlags := 18, slot := 0, constantValue := 0 }, { name := "hours", type := .int, accessFlags := 18, slot := 1, constantValue := 0 }, { name := "dayHours", type := .int, accessFlags := 18, slot := 2, constantValue := 0 }, { name := "starts", type := (.array .long), accessFlags := 2, slot := 3, constantValue := 0 }, { name := "ends", type := (.array .long), accessFlags := 2, slot := 4, constantValue := 0 }, { name := "runs", type := .int, accessFlags := 2, slot := 5, constantValue := 0 }, { name := "schedule", type := .long, accessFlags := 2, slot := 6, constantValue := 0 }]
  methods := #[k2m0, k2m1, k2m2, k2m3, k2m4, k2m5, k2m6]
  instanceTypes := #[.long, .int, .int, (.array .long), (.array .long), .int, .long]
  staticTypes := #[.long]
  resolved := Array.replicate 111 none
  statics := some 0 }

def pool3 : Array CpInfo := pool [(2, .class_ 4), (1, u "java/lang/Object"), (0, u "<init>"), (0, u "()V"), (0, .class_ 8), (0, u "java/lang/Record")] 13

def k3m0 : Method := { name := "<init>", desc := "()V", sig := { parameters := [], returnType := none }, accessFlags := 4, code := none }
/-- java/lang/Record -/
def k3 : Class := { plain "java/lang/Record" (some 0) with
  accessFlags := 1057
  interfaces := #[]
  cf := some (fileOf pool3 7 #[] #[{ accessFlags := 4, nameIndex := 5, descriptorIndex := 6, attributes := #[] }] 1057 2 #[] #[])
  fields := #[]
  methods := #[k3m0]
  instanceTypes := #[]
  staticTypes := #[]
  resolved := Array.replicate 22 none
  statics := none }

def pool4 : Array CpInfo := pool [(1, .class_ 2), (0, u "java/lang/Comparable"), (0, .class_ 4), (0, u "java/lang/Object")] 7

/-- java/lang/Comparable -/
def k4 : Class := { plain "java/lang/Comparable" (some 0) with
  accessFlags := 1537
  interfaces := #[]
  cf := some (fileOf pool4 1 #[] #[] 1537 3 #[] #[])
  fields := #[]
  methods := #[]
  instanceTypes := #[]
  staticTypes := #[]
  resolved := Array.replicate 12 none
  statics := none }

def pool5 : Array CpInfo := pool [(2, .class_ 4), (1, u "java/lang/Record"), (31, .class_ 38), (1, u "com/example/gasholder/gasholder/Fraction"), (0, u "numerator"), (0, u "Ljava/math/BigInteger;"), (2, u "denominator"), (68, u "ZERO"), (0, u "Lcom/example/gasholder/gasholder/Fraction;"), (0, .class_ 115), (0, u "java/lang/Comparable"), (10, u "nearest"), (2, u "(JJ)J")] 35

def k5c0 : Code := { maxStack := 6, maxLocals := 8, code := prog_11_method_14_code, exceptionTable := #[], attributes := #[] }
def k5m0 : Method := { name := "nearest", desc := "(JJ)J", sig := { parameters := [.long, .long], returnType := some .long }, accessFlags := 8, code := some k5c0 }
/-- com/example/gasholder/gasholder/Fraction -/
def k5 : Class := { plain "com/example/gasholder/gasholder/Fraction" (some 3) with
  accessFlags := 48
  interfaces := #[4]
  cf := some (fileOf pool5 36 #[] #[{ accessFlags := 8, nameIndex := 126, descriptorIndex := 129, attributes := #[] }] 48 2 #[114] #[{ accessFlags := 18, nameIndex := 39, descriptorIndex := 40, attributes := #[] }, { accessFlags := 18, nameIndex := 43, descriptorIndex := 40, attributes := #[] }, { accessFlags := 24, nameIndex := 112, descriptorIndex := 113, attributes := #[] }])
  fields := #[{ name := "numerator", type := (.object "java/math/BigInteger"), accessFlags := 18, slot := 0, constantValue := 0 }, { name := "denominator", type := (.object "java/math/BigInteger"), accessFlags := 18, slot := 1, constantValue := 0 }, { name := "ZERO", type := (.object "com/example/gasholder/gasholder/Fraction"), accessFlags := 24, slot := 0, constantValue := 0 }]
  methods := #[k5m0]
  instanceTypes := #[(.object "java/math/BigInteger"), (.object "java/math/BigInteger")]
  staticTypes := #[(.object "com/example/gasholder/gasholder/Fraction")]
  resolved := Array.replicate 165 none
  statics := none }

def pool6 : Array CpInfo := pool [(1, .class_ 2), (0, u "java/time/temporal/TemporalAmount"), (0, .class_ 4), (0, u "java/lang/Object")] 11

/-- java/time/temporal/TemporalAmount -/
def k6 : Class := { plain "java/time/temporal/TemporalAmount" (some 0) with
  accessFlags := 1537
  interfaces := #[]
  cf := some (fileOf pool6 1 #[] #[] 1537 3 #[] #[])
  fields := #[]
  methods := #[]
  instanceTypes := #[]
  staticTypes := #[]
  resolved := Array.replicate 16 none
  statics := none }

def pool7 : Array CpInfo := pool [(1, .class_ 2), (0, u "java/io/Serializable"), (0, .class_ 4), (0, u "java/lang/Object")] 2

/-- java/io/Serializable -/
def k7 : Class := { plain "java/io/Serializable" (some 0) with
  accessFlags := 1537
  interfaces := #[]
  cf := some (fileOf pool7 1 #[] #[] 1537 3 #[] #[])
  fields := #[]
  methods := #[]
  instanceTypes := #[]
  staticTypes := #[]
  resolved := Array.replicate 7 none
  statics := none }

def pool8 : Array CpInfo := pool [(10, .methodref 11 12), (0, .class_ 13), (0, .nameAndType 14 15), (0, u "java/time/Duration"), (0, u "create"), (0, u "(JI)Ljava/time/Duration;"), (16, .fieldref 11 33), (0, .nameAndType 34 35), (0, u "ZERO"), (0, u "Ljava/time/Duration;"), (13, .class_ 51), (1, u "java/time/temporal/TemporalAmount"), (27, .class_ 81), (1, u "java/time/Duration$Lazy"), (35, u "seconds"), (60, u "ofSeconds"), (20, u "(J)Ljava/time/Duration;"), (19, .class_ 220), (0, u "java/lang/Object"), (2, u "J"), (2, u "nanos"), (0, u "I"), (11, .class_ 241), (1, u "java/time/Duration$DurationUnits"), (27, .class_ 271), (1, u "java/time/Duration$1"), (91, u "BI_NANOS_PER_SECOND"), (0, u "Ljava/math/BigInteger;"), (120, .class_ 486), (0, u "java/lang/Comparable"), (0, .class_ 488), (0, u "java/io/Serializable"), (0, u "serialVersionUID")] 166

def k8c0 : Code := { maxStack := 3, maxLocals := 2, code := jdk_2316_method_4_code, exceptionTable := #[], attributes := #[] }
def k8m0 : Method := { name := "ofSeconds", desc := "(J)Ljava/time/Duration;", sig := { parameters := [.long], returnType := some (.object "java/time/Duration") }, accessFlags := 9, code := some k8c0 }
def k8c1 : Code := { maxStack := 5, maxLocals := 3, code := jdk_2316_method_16_code, exceptionTable := #[], attributes := #[] }
def k8m1 : Method := { name := "create", desc := "(JI)Ljava/time/Duration;", sig := { parameters := [.long, .int], returnType := some (.object "java/time/Duration") }, accessFlags := 10, code := some k8c1 }
/-- java/time/Duration -/
def k8 : Class := { plain "java/time/Duration" (some 0) with
  accessFlags := 49
  interfaces := #[6, 4, 7]
  cf := some (fileOf pool8 11 #[.nestMembers #[269, 239, 79]] #[{ accessFlags := 9, nameIndex := 178, descriptorIndex := 199, attributes := #[] }, { accessFlags := 10, nameIndex := 14, descriptorIndex := 15, attributes := #[] }] 49 219 #[49, 485, 487] #[{ accessFlags := 25, nameIndex := 34, descriptorIndex := 35, attributes := #[] }, { accessFlags := 26, nameIndex := 489, descriptorIndex := 223, attributes := #[] }, { accessFlags := 26, nameIndex := 363, descriptorIndex := 364, attributes := #[] }, { accessFlags := 18, nameIndex := 117, descriptorIndex := 223, attributes := #[] }, { accessFlags := 18, nameIndex := 226, descriptorIndex := 227, attributes := #[] }])
  fields := #[{ name := "ZERO", type := (.object "java/time/Duration"), accessFlags := 25, slot := 0, constantValue := 0 }, { name := "serialVersionUID", type := .long, accessFlags := 26, slot := 1, constantValue := 0 }, { name := "BI_NANOS_PER_SECOND", type := (.object "java/math/BigInteger"), accessFlags := 26, slot := 2, constantValue := 0 }, { name := "seconds", type := .long, accessFlags := 18, slot := 0, constantValue := 0 }, { name := "nanos", type := .int, accessFlags := 18, slot := 1, constantValue := 0 }]
  methods := #[k8m0, k8m1]
  instanceTypes := #[.long, .int]
  staticTypes := #[(.object "java/time/Duration"), .long, (.object "java/math/BigInteger")]
  resolved := Array.replicate 656 none
  statics := some 1 }

def pool9 : Array CpInfo := pool [(1, .class_ 2), (0, u "java/lang/Math"), (1, .class_ 6), (1, u "java/lang/Object"), (0, u "<init>"), (0, u "()V"), (89, .class_ 100), (1, u "java/lang/Math$RandomNumberGeneratorHolder"), (20, u "(JJ)J"), (50, u "negativeZeroFloatBits"), (0, u "J"), (2, u "negativeZeroDoubleBits"), (21, u "max"), (2, u "min"), (43, u "$assertionsDisabled"), (0, u "Z"), (91, u "twoToTheDoubleScaleDown"), (0, u "D"), (4, u "twoToTheDoubleScaleUp"), (9, u "E"), (3, u "PI"), (2, u "TAU"), (2, u "DEGREES_TO_RADIANS"), (0, u "RADIANS_TO_DEGREES")] 94

def k9m0 : Method := { name := "<init>", desc := "()V", sig := { parameters := [], returnType := none }, accessFlags := 2, code := none }
def k9c1 : Code := { maxStack := 4, maxLocals := 4, code := jdk_29_method_66_code, exceptionTable := #[], attributes := #[] }
def k9m1 : Method := { name := "max", desc := "(JJ)J", sig := { parameters := [.long, .long], returnType := some .long }, accessFlags := 9, code := some k9c1 }
def k9c2 : Code := { maxStack := 4, maxLocals := 4, code := jdk_29_method_70_code, exceptionTable := #[], attributes := #[] }
def k9m2 : Method := { name := "min", desc := "(JJ)J", sig := { parameters := [.long, .long], returnType := some .long }, accessFlags := 9, code := some k9c2 }
/-- java/lang/Math -/
def k9 : Class := { plain "java/lang/Math" (some 0) with
  accessFlags := 49
  interfaces := #[]
  cf := some (fileOf pool9 1 #[.nestMembers #[98]] #[{ accessFlags := 2, nameIndex := 7, descriptorIndex := 8, attributes := #[] }, { accessFlags := 9, nameIndex := 198, descriptorIndex := 121, attributes := #[] }, { accessFlags := 9, nameIndex := 201, descriptorIndex := 121, attributes := #[] }] 49 4 #[] #[{ accessFlags := 25, nameIndex := 354, descriptorIndex := 339, attributes := #[] }, { accessFlags := 25, nameIndex := 358, descriptorIndex := 339, attributes := #[] }, { accessFlags := 25, nameIndex := 361, descriptorIndex := 339, attributes := #[] }, { accessFlags := 26, nameIndex := 364, descriptorIndex := 339, attributes := #[] }, { accessFlags := 26, nameIndex := 365, descriptorIndex := 339, attributes := #[] }, { accessFlags := 26, nameIndex := 172, descriptorIndex := 173, attributes := #[] }, { accessFlags := 26, nameIndex := 176, descriptorIndex := 173, attributes := #[] }, { accessFlags := 8, nameIndex := 344, descriptorIndex := 339, attributes := #[] }, { accessFlags := 8, nameIndex := 338, descriptorIndex := 339, attributes := #[] }, { accessFlags := 4120, nameIndex := 245, descriptorIndex := 246, attributes := #[] }])
  fields := #[{ name := "E", type := .double, accessFlags := 25, slot := 0, constantValue := 0 }, { name := "PI", type := .double, accessFlags := 25, slot := 1, constantValue := 0 }, { name := "TAU", type := .double, accessFlags := 25, slot := 2, constantValue := 0 }, { name := "DEGREES_TO_RADIANS", type := .double, accessFlags := 26, slot := 3, constantValue := 0 }, { name := "RADIANS_TO_DEGREES", type := .double, accessFlags := 26, slot := 4, constantValue := 0 }, { name := "negativeZeroFloatBits", type := .long, accessFlags := 26, slot := 5, constantValue := 0 }, { name := "negativeZeroDoubleBits", type := .long, accessFlags := 26, slot := 6, constantValue := 0 }, { name := "twoToTheDoubleScaleUp", type := .double, accessFlags := 8, slot := 7, constantValue := 0 }, { name := "twoToTheDoubleScaleDown", type := .double, accessFlags := 8, slot := 8, constantValue := 0 }, { name := "$assertionsDisabled", type := .boolean, accessFlags := 4120, slot := 9, constantValue := 0 }]
  methods := #[k9m0, k9m1, k9m2]
  instanceTypes := #[]
  staticTypes := #[.double, .double, .double, .double, .double, .long, .long, .double, .double, .boolean]
  resolved := Array.replicate 460 none
  statics := none }

def pool10 : Array CpInfo := pool [(1, u "java/lang/Cloneable"), (0, .class_ 1), (0, u "java/lang/Object"), (0, .class_ 3)] 3

/-- java/lang/Cloneable -/
def k10 : Class := { plain "java/lang/Cloneable" (some 0) with
  accessFlags := 1537
  interfaces := #[]
  cf := some (fileOf pool10 2 #[] #[] 1537 4 #[] #[])
  fields := #[]
  methods := #[]
  instanceTypes := #[]
  staticTypes := #[]
  resolved := Array.replicate 8 none
  statics := none }

/-- the primitive byte -/
def k11 : Class := { plain "byte" none with kind := .primitive 'B', accessFlags := 0x411 }
/-- [B -/
def k12 : Class := { plain "[B" (some 0) with kind := .array 11 .byte, interfaces := #[10, 7], accessFlags := 1041 }

/-- the primitive int -/
def k13 : Class := { plain "int" none with kind := .primitive 'I', accessFlags := 0x411 }
/-- [I -/
def k14 : Class := { plain "[I" (some 0) with kind := .array 13 .int, interfaces := #[10, 7], accessFlags := 1041 }

/-- the primitive long -/
def k15 : Class := { plain "long" none with kind := .primitive 'J', accessFlags := 0x411 }
/-- [J -/
def k16 : Class := { plain "[J" (some 0) with kind := .array 15 .long, interfaces := #[10, 7], accessFlags := 1041 }

def heap : Heap := #[{ cls := 2, slots := #[.long 3600], vm := .statics 2 },
  { cls := 8, slots := #[.ref 2, .long 0, .null], vm := .statics 8 },
  { cls := 8, slots := #[.long 0, .int 0], vm := .none }]
def classes : Array Class := #[k0, k1, k2, k3, k4, k5, k6, k7, k8, k9, k10, k11, k12, k13, k14, k15, k16]
def interned : List (Array UInt16 × Addr) := []
def slotsUsed : Nat := 6
def theMethod : MethodId := ⟨1, 1⟩
def args0 : Array Value := #[.int 5, .int 3, .long 3]
def aboutOver (below : List Frame) : State where
  vm := { classes := classes, interned := interned.toArray }
  heap := heap
  slotsUsed := slotsUsed
  threads := #[{ frames := .invoking theMethod args0 :: below }]
def below0 : List Frame := [.native { method := ⟨0, 0⟩, args := #[] }]
def about1 : State := aboutOver below0
def p0 : Program := .bare "" "" ""
def e0 : Env := launch0.env 0 0 0
theorem w_frames : about1.frames = Frame.invoking theMethod args0 :: below0 := rfl
set_option maxRecDepth 65536 in
theorem w_args : argsFit about1.vm theMethod args0 = true := by decide +kernel
set_option maxRecDepth 65536 in
theorem w_heap : heapFits about1 = true := by decide +kernel
set_option maxRecDepth 65536 in
theorem w_runnable : about1.curStatus? = some .runnable := by decide +kernel
set_option maxRecDepth 65536 in
theorem w_alone : about1.alone = true := by decide +kernel
set_option maxRecDepth 65536 in
theorem w_named : about1.methodNamed? x = some theMethod := by decide +kernel
set_option maxRecDepth 65536 in
theorem w_hears : about1.hears theMethod below0 = true := by decide +kernel
set_option maxRecDepth 65536 in
theorem w_ripe : about1.ripe theMethod args0 below0 = true := by decide +kernel
theorem w_running : about1.status = .running := rfl
set_option maxRecDepth 65536 in
theorem w_room : about1.hasRoom e0.platform room_1 = true :=
  launch0.hasRoom_least _ room_1 (by decide +kernel) (by decide +kernel) (by decide +kernel) (by decide +kernel) (by decide +kernel) (by decide +kernel)
theorem allAtoms_all (ts : List Jvm.Cond) (a : Array Jvm.Value) (st : Jvm.State) : (allAtoms ts).before a st = ts.all (fun c => c.before a st) := by
  induction ts with
  | nil => rfl
  | cons c t ih =>
    show (Jvm.Cond.and c (allAtoms t)).before a st = _
    rw [Jvm.Cond.before_and, ih, List.all_cons]
def words1 : List Jvm.Cond := Jvm.Cond.code x code maxLocals ret :: tables_1
/-- a 'code' word, met by the world's own term for the bytes: nothing is compared byte by byte -/
theorem code_word {y : MethodName} {bytes : ByteArray} {mx : Nat} {rt : Option FieldType} {a : Array Value} {s : State} {m : MethodId} {meth : Method} {c : Code} (h1 : s.methodNamed? y = some m) (h2 : s.vm.method? m = some meth) (h3 : meth.code = some c) (h4 : c.code = bytes)
    (h5 : (c.maxLocals == mx && c.exceptionTable.isEmpty && decide (c.maxStack ≤ mostOperands) && decide (meth.sig.returnType = rt) && !meth.locks && decide (parseMethodDescriptor y.desc = some meth.sig)) = true) : (Jvm.Cond.code y bytes mx rt).before a s = true := by
  simp only [Bool.and_eq_true, beq_iff_eq, Bool.not_eq_true', decide_eq_true_eq] at h5
  obtain ⟨⟨⟨⟨⟨g1, g2⟩, g3⟩, g4⟩, g5⟩, g6⟩ := h5
  simp [Cond.before, Cond.holds, Cond.value, h1, h2, h3, h4, g1, g2, g3, g4, g5, g6]
def isCode : Jvm.Cond → Bool
  | .code _ _ _ _ => true
  | _ => false
theorem all_split {L : List Jvm.Cond} {P : Jvm.Cond → Bool} (h1 : L.all (fun c => isCode c || P c) = true) (h2 : ∀ c ∈ L.filter isCode, P c = true) : L.all P = true := by
  refine List.all_eq_true.mpr fun c hc => ?_
  have h := List.all_eq_true.mp h1 c hc
  rcases Bool.eq_false_or_eq_true (isCode c) with hi | hi
  · exact h2 c (List.mem_filter.mpr ⟨hc, hi⟩)
  · simpa [hi] using h
set_option maxRecDepth 65536 in
theorem w_c0 : (Jvm.Cond.code x code maxLocals ret).before args0 about1 = true := code_word (m := ⟨1, 1⟩) (meth := k1m1) (c := k1c1) (by decide +kernel) rfl rfl rfl (by decide +kernel)
set_option maxRecDepth 65536 in
theorem w_c1 : (Jvm.Cond.code ({ cls := "com/example/gasholder/gasholder/Execution", name := "<init>", desc := "(JII)V" } : Jvm.MethodName) prog_8_method_1_code (5 : Nat) (Option.none : Option Jvm.ClassFile.FieldType)).before args0 about1 = true := code_word (m := ⟨2, 0⟩) (meth := k2m0) (c := k2c0) (by decide +kernel) rfl rfl rfl (by decide +kernel)
set_option maxRecDepth 65536 in
theorem w_c2 : (Jvm.Cond.code ({ cls := "java/lang/Object", name := "<init>", desc := "()V" } : Jvm.MethodName) object_method_1_code (1 : Nat) (Option.none : Option Jvm.ClassFile.FieldType)).before args0 about1 = true := code_word (m := ⟨0, 0⟩) (meth := k0m0) (c := k0c0) (by decide +kernel) rfl rfl rfl (by decide +kernel)
set_option maxRecDepth 65536 in
theorem w_c3 : (Jvm.Cond.code ({ cls := "com/example/gasholder/gasholder/Execution", name := "schedule", desc := "(IJ)Ljava/time/Duration;" } : Jvm.MethodName) prog_8_method_6_code (11 : Nat) (Option.some (Jvm.ClassFile.FieldType.object "java/time/Duration"))).before args0 about1 = true := code_word (m := ⟨2, 5⟩) (meth := k2m5) (c := k2c5) (by decide +kernel) rfl rfl rfl (by decide +kernel)
set_option maxRecDepth 65536 in
theorem w_c4 : (Jvm.Cond.code ({ cls := "com/example/gasholder/gasholder/Execution", name := "flowedBy", desc := "(I)J" } : Jvm.MethodName) prog_8_method_4_code (7 : Nat) (Option.some Jvm.ClassFile.FieldType.long)).before args0 about1 = true := code_word (m := ⟨2, 3⟩) (meth := k2m3) (c := k2c3) (by decide +kernel) rfl rfl rfl (by decide +kernel)
set_option maxRecDepth 65536 in
theorem w_c5 : (Jvm.Cond.code ({ cls := "com/example/gasholder/gasholder/Execution", name := "nearestSecond", desc := "(J)Ljava/time/Duration;" } : Jvm.MethodName) prog_8_method_8_code (7 : Nat) (Option.some (Jvm.ClassFile.FieldType.object "java/time/Duration"))).before args0 about1 = true := code_word (m := ⟨2, 6⟩) (meth := k2m6) (c := k2c6) (by decide +kernel) rfl rfl rfl (by decide +kernel)
set_option maxRecDepth 65536 in
theorem w_c6 : (Jvm.Cond.code ({ cls := "com/example/gasholder/gasholder/Fraction", name := "nearest", desc := "(JJ)J" } : Jvm.MethodName) prog_11_method_14_code (8 : Nat) (Option.some Jvm.ClassFile.FieldType.long)).before args0 about1 = true := code_word (m := ⟨5, 0⟩) (meth := k5m0) (c := k5c0) (by decide +kernel) rfl rfl rfl (by decide +kernel)
set_option maxRecDepth 65536 in
theorem w_c7 : (Jvm.Cond.code ({ cls := "java/time/Duration", name := "ofSeconds", desc := "(J)Ljava/time/Duration;" } : Jvm.MethodName) jdk_2316_method_4_code (2 : Nat) (Option.some (Jvm.ClassFile.FieldType.object "java/time/Duration"))).before args0 about1 = true := code_word (m := ⟨8, 0⟩) (meth := k8m0) (c := k8c0) (by decide +kernel) rfl rfl rfl (by decide +kernel)
set_option maxRecDepth 65536 in
theorem w_c8 : (Jvm.Cond.code ({ cls := "java/time/Duration", name := "create", desc := "(JI)Ljava/time/Duration;" } : Jvm.MethodName) jdk_2316_method_16_code (3 : Nat) (Option.some (Jvm.ClassFile.FieldType.object "java/time/Duration"))).before args0 about1 = true := code_word (m := ⟨8, 1⟩) (meth := k8m1) (c := k8c1) (by decide +kernel) rfl rfl rfl (by decide +kernel)
set_option maxRecDepth 65536 in
theorem w_c9 : (Jvm.Cond.code ({ cls := "com/example/gasholder/gasholder/Execution", name := "scheduled", desc := "()J" } : Jvm.MethodName) prog_8_method_3_code (1 : Nat) (Option.some Jvm.ClassFile.FieldType.long)).before args0 about1 = true := code_word (m := ⟨2, 2⟩) (meth := k2m2) (c := k2c2) (by decide +kernel) rfl rfl rfl (by decide +kernel)
set_option maxRecDepth 65536 in
theorem w_c10 : (Jvm.Cond.code ({ cls := "com/example/gasholder/gasholder/Execution", name := "partsPerKwh", desc := "()J" } : Jvm.MethodName) prog_8_method_2_code (1 : Nat) (Option.some Jvm.ClassFile.FieldType.long)).before args0 about1 = true := code_word (m := ⟨2, 1⟩) (meth := k2m1) (c := k2c1) (by decide +kernel) rfl rfl rfl (by decide +kernel)
set_option maxRecDepth 65536 in
theorem w_c11 : (Jvm.Cond.code ({ cls := "java/lang/Math", name := "min", desc := "(JJ)J" } : Jvm.MethodName) jdk_29_method_70_code (4 : Nat) (Option.some Jvm.ClassFile.FieldType.long)).before args0 about1 = true := code_word (m := ⟨9, 2⟩) (meth := k9m2) (c := k9c2) (by decide +kernel) rfl rfl rfl (by decide +kernel)
set_option maxRecDepth 65536 in
theorem w_c12 : (Jvm.Cond.code ({ cls := "java/lang/Math", name := "max", desc := "(JJ)J" } : Jvm.MethodName) jdk_29_method_66_code (4 : Nat) (Option.some Jvm.ClassFile.FieldType.long)).before args0 about1 = true := code_word (m := ⟨9, 1⟩) (meth := k9m1) (c := k9c1) (by decide +kernel) rfl rfl rfl (by decide +kernel)
set_option maxRecDepth 65536 in
theorem w_c13 : (Jvm.Cond.code ({ cls := "com/example/gasholder/gasholder/Execution", name := "mayStillFlowFrom", desc := "(I)J" } : Jvm.MethodName) prog_8_method_5_code (2 : Nat) (Option.some Jvm.ClassFile.FieldType.long)).before args0 about1 = true := code_word (m := ⟨2, 4⟩) (meth := k2m4) (c := k2c4) (by decide +kernel) rfl rfl rfl (by decide +kernel)
def codes1 : List Jvm.Cond := [Jvm.Cond.code x code maxLocals ret, Jvm.Cond.code ({ cls := "com/example/gasholder/gasholder/Execution", name := "<init>", desc := "(JII)V" } : Jvm.MethodName) prog_8_method_1_code (5 : Nat) (Option.none : Option Jvm.ClassFile.FieldType), Jvm.Cond.code ({ cls := "java/lang/Object", name := "<init>", desc := "()V" } : Jvm.MethodName) object_method_1_code (1 : Nat) (Option.none : Option Jvm.ClassFile.FieldType), Jvm.Cond.code ({ cls := "com/example/gasholder/gasholder/Execution", name := "schedule", desc := "(IJ)Ljava/time/Duration;" } : Jvm.MethodName) prog_8_method_6_code (11 : Nat) (Option.some (Jvm.ClassFile.FieldType.object "java/time/Duration")), Jvm.Cond.code ({ cls := "com/example/gasholder/gasholder/Execution", name := "flowedBy", desc := "(I)J" } : Jvm.MethodName) prog_8_method_4_code (7 : Nat) (Option.some Jvm.ClassFile.FieldType.long), Jvm.Cond.code ({ cls := "com/example/gasholder/gasholder/Execution", name := "nearestSecond", desc := "(J)Ljava/time/Duration;" } : Jvm.MethodName) prog_8_method_8_code (7 : Nat) (Option.some (Jvm.ClassFile.FieldType.object "java/time/Duration")), Jvm.Cond.code ({ cls := "com/example/gasholder/gasholder/Fraction", name := "nearest", desc := "(JJ)J" } : Jvm.MethodName) prog_11_method_14_code (8 : Nat) (Option.some Jvm.ClassFile.FieldType.long), Jvm.Cond.code ({ cls := "java/time/Duration", name := "ofSeconds", desc := "(J)Ljava/time/Duration;" } : Jvm.MethodName) jdk_2316_method_4_code (2 : Nat) (Option.some (Jvm.ClassFile.FieldType.object "java/time/Duration")), Jvm.Cond.code ({ cls := "java/time/Duration", name := "create", desc := "(JI)Ljava/time/Duration;" } : Jvm.MethodName) jdk_2316_method_16_code (3 : Nat) (Option.some (Jvm.ClassFile.FieldType.object "java/time/Duration")), Jvm.Cond.code ({ cls := "com/example/gasholder/gasholder/Execution", name := "scheduled", desc := "()J" } : Jvm.MethodName) prog_8_method_3_code (1 : Nat) (Option.some Jvm.ClassFile.FieldType.long), Jvm.Cond.code ({ cls := "com/example/gasholder/gasholder/Execution", name := "partsPerKwh", desc := "()J" } : Jvm.MethodName) prog_8_method_2_code (1 : Nat) (Option.some Jvm.ClassFile.FieldType.long), Jvm.Cond.code ({ cls := "java/lang/Math", name := "min", desc := "(JJ)J" } : Jvm.MethodName) jdk_29_method_70_code (4 : Nat) (Option.some Jvm.ClassFile.FieldType.long), Jvm.Cond.code ({ cls := "java/lang/Math", name := "max", desc := "(JJ)J" } : Jvm.MethodName) jdk_29_method_66_code (4 : Nat) (Option.some Jvm.ClassFile.FieldType.long), Jvm.Cond.code ({ cls := "com/example/gasholder/gasholder/Execution", name := "mayStillFlowFrom", desc := "(I)J" } : Jvm.MethodName) prog_8_method_5_code (2 : Nat) (Option.some Jvm.ClassFile.FieldType.long)]
set_option maxRecDepth 65536 in
theorem codes_eq : words1.filter isCode = codes1 := rfl
theorem w_codes : ∀ c ∈ words1.filter isCode, c.before args0 about1 = true := by
  rw [codes_eq]
  intro c hc
  simp only [codes1, List.mem_cons, List.not_mem_nil, or_false] at hc
  rcases hc with rfl | rfl | rfl | rfl | rfl | rfl | rfl | rfl | rfl | rfl | rfl | rfl | rfl | rfl
  · exact w_c0
  · exact w_c1
  · exact w_c2
  · exact w_c3
  · exact w_c4
  · exact w_c5
  · exact w_c6
  · exact w_c7
  · exact w_c8
  · exact w_c9
  · exact w_c10
  · exact w_c11
  · exact w_c12
  · exact w_c13
set_option maxRecDepth 65536 in
theorem w_t1 : (words1.take 24).all (fun c => isCode c || c.before args0 about1) = true := by decide +kernel
set_option maxRecDepth 65536 in
theorem w_t2 : ((words1.drop 24).take 24).all (fun c => isCode c || c.before args0 about1) = true := by decide +kernel
set_option maxRecDepth 65536 in
theorem w_t3 : (((words1.drop 24).drop 24).take 24).all (fun c => isCode c || c.before args0 about1) = true := by decide +kernel
set_option maxRecDepth 65536 in
theorem w_t4 : (((words1.drop 24).drop 24).drop 24).all (fun c => isCode c || c.before args0 about1) = true := by decide +kernel
theorem w_tables : (allAtoms (Jvm.Cond.code x code maxLocals ret :: tables_1)).before args0 about1 = true := by
  rw [allAtoms_all]
  show words1.all (fun c => c.before args0 about1) = true
  refine all_split ?_ w_codes
  rw [← List.take_append_drop 24 words1, List.all_append, w_t1, ← List.take_append_drop 24 (words1.drop 24), List.all_append, w_t2, ← List.take_append_drop 24 ((words1.drop 24).drop 24), List.all_append, w_t3, w_t4]
  rfl
set_option maxRecDepth 65536 in
theorem w_rest : rest_1_c.before args0 about1 = true := by decide +kernel
set_option maxRecDepth 65536 in
theorem w_case : (Jvm.Cond.and given_1 narrow_1).before args0 about1 = true := by decide +kernel
theorem w_applies : (headSpec (Jvm.Cond.code x code maxLocals ret :: tables_1) room_1).applies x e0.platform about1 = true :=
  (Spec.applies_iff w_frames).mpr ⟨w_running, w_runnable, w_alone, w_named, w_hears, w_ripe, w_room, w_tables⟩
theorem atStart : AtStart classFile x code maxLocals ret World_1 tables_1 room_1 Calls_1 rest_1 Pre_1 launch0 p0 e0 about1 theMethod args0 below0 :=
  ⟨lists_1, trivial, launch0.admits_env _ _ _, launch0.least_env, fairChoices_fair.cas, fairChoices_fair.clock, w_frames, w_args, w_heap, w_applies, trivial, w_rest, w_case⟩
end start1
theorem witness_1 : WitnessClaimed_1 := ⟨start1.p0, start1.e0, start1.about1, start1.theMethod, start1.args0, start1.below0, start1.atStart⟩
end Jvm.Pilot.@@N@@
