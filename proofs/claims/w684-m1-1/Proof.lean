import JvmDerived
import JvmDerived.Pilot.@@N@@Statement
import JvmDerived.Pilot.@@N@@Code
set_option linter.unusedVariables false
set_option linter.unusedSimpArgs false
namespace Jvm.RoadKit
open Sem ClassFile Op Lib Jvm.Stand Jvm.Free Jvm.LawKit
section OwnKit
variable {p : Program} {l : Launch} {e : Env} {R : Room} {s : State} {m : MethodId} {args : Array Value} {below : List Frame} {meth : Method} {c : Code} {T : State} {locs : List Loc} {cells slots : Nat} {Q : Option Value → Heap → List Loc → Prop} {rc rs : Nat}
theorem retI (X : Stand p l e R s m args below meth c T locs cells slots) (hx : p.tables.exec = Jvm.exec) {pc : Nat} {Ls : Array Slot} {z : Int32} {rest : List Value} (hret : meth.sig.returnType = some .int) (hd : decode c.code pc = .ok (.ireturn, 1)) {fs : List Frame}
    (hl : ∀ (f : JFrame) (acts : List Action), f.method = m → f.locked = none → f.entered = [] → (doReturn e (T.setTop f) acts (some (.int z))).1 = T.setFrames fs) : Steps p.tables e below (T.setTop (mkF m pc Ls (.int z :: rest))) (T.setFrames fs) := by
  have hm' : T.vm.method? m = some meth := X.method'
  have hn : narrow .int (.int z) = .int z := rfl
  show Steps p.tables e below (T.setTop { method := m, pc := pc, locals := Ls, stack := _ :: rest, locked := none }) _
  jvm_step X.here [X.here.top, hx, hd, hm', hret, hn]
  first | (intro acts; rw [hl _ acts rfl rfl rfl]) | rw [hl _ _ rfl rfl rfl]
  exact Steps.refl _
theorem own_retA (X : Stand p l e R s m args below meth c T locs cells slots) (hx : p.tables.exec = Jvm.exec) {pc : Nat} {Ls : Array Slot} {w : Value} {ty : FieldType} {rest : List Value} (hw : w.isRef = true) (hty : ty.isReference = true) (hret : meth.sig.returnType = some ty) (hd : decode c.code pc = .ok (.areturn, 1)) {fs : List Frame}
    (hl : ∀ (f : JFrame) (acts : List Action), f.method = m → f.locked = none → f.entered = [] → (doReturn e (T.setTop f) acts (some w)).1 = T.setFrames fs) : Steps p.tables e below (T.setTop (mkF m pc Ls (w :: rest))) (T.setFrames fs) := by
  have hm' : T.vm.method? m = some meth := X.method'
  show Steps p.tables e below (T.setTop { method := m, pc := pc, locals := Ls, stack := _ :: rest, locked := none }) _
  jvm_step X.here [X.here.top, hx, hd, hm', hret, hw, hty]
  first | (intro acts; rw [hl _ acts rfl rfl rfl]) | rw [hl _ _ rfl rfl rfl]
  exact Steps.refl _
theorem own_retL (X : Stand p l e R s m args below meth c T locs cells slots) (hx : p.tables.exec = Jvm.exec) {pc : Nat} {Ls : Array Slot} {z : Int64} {rest : List Value} (hret : meth.sig.returnType = some .long) (hd : decode c.code pc = .ok (.lreturn, 1)) {fs : List Frame}
    (hl : ∀ (f : JFrame) (acts : List Action), f.method = m → f.locked = none → f.entered = [] → (doReturn e (T.setTop f) acts (some (.long z))).1 = T.setFrames fs) : Steps p.tables e below (T.setTop (mkF m pc Ls (.long z :: rest))) (T.setFrames fs) := by
  have hm' : T.vm.method? m = some meth := X.method'
  show Steps p.tables e below (T.setTop { method := m, pc := pc, locals := Ls, stack := _ :: rest, locked := none }) _
  jvm_step X.here [X.here.top, hx, hd, hm', hret]
  first | (intro acts; rw [hl _ acts rfl rfl rfl]) | rw [hl _ _ rfl rfl rfl]
  exact Steps.refl _
theorem own_retDbl (X : Stand p l e R s m args below meth c T locs cells slots) (hx : p.tables.exec = Jvm.exec) {pc : Nat} {Ls : Array Slot} {z : UInt64} {rest : List Value} (hret : meth.sig.returnType = some .double) (hd : decode c.code pc = .ok (.dreturn, 1)) {fs : List Frame}
    (hl : ∀ (f : JFrame) (acts : List Action), f.method = m → f.locked = none → f.entered = [] → (doReturn e (T.setTop f) acts (some (.double z))).1 = T.setFrames fs) : Steps p.tables e below (T.setTop (mkF m pc Ls (.double z :: rest))) (T.setFrames fs) := by
  have hm' : T.vm.method? m = some meth := X.method'
  show Steps p.tables e below (T.setTop { method := m, pc := pc, locals := Ls, stack := _ :: rest, locked := none }) _
  jvm_step X.here [X.here.top, hx, hd, hm', hret]
  first | (intro acts; rw [hl _ acts rfl rfl rfl]) | rw [hl _ _ rfl rfl rfl]
  exact Steps.refl _
/-- what is left to be shown from the state A on: the run comes back, and Q holds of what it leaves -/
def OwnG (p : Program) (e : Env) (below : List Frame) (s : State) (Q : Option Value → Heap → List Loc → Prop) (rc rs : Nat) (A : State) : Prop :=
  ∃ s₂ o, Steps p.tables e below A s₂ ∧ s₂.status = .running ∧ Ended s₂ below o ∧ ∃ v L, o = .returned v ∧ Q v s₂.heap L ∧ FrameEnd s o s₂ L rc rs
theorem own_by {A B : State} (k : ∀ t, Steps p.tables e below B t → Steps p.tables e below A t) (h : OwnG p e below s Q rc rs B) : OwnG p e below s Q rc rs A := by
  obtain ⟨s₂, o, h1, r⟩ := h
  exact ⟨s₂, o, k _ h1, r⟩
theorem own_out (X : Stand p l e R s m args below meth c T locs cells slots) {v : Option Value} (hv : meth.sig.returnType = none → v = none) (hlk : meth.locks = false) {A : State}
    (k : ∀ fs, (∀ (f : JFrame) (acts : List Action), f.method = m → f.locked = none → f.entered = [] → (doReturn e (T.setTop f) acts v).1 = T.setFrames fs) → Steps p.tables e below A (T.setFrames fs)) (hQ : Q v T.heap locs) (hc : cells ≤ rc) (hs : slots ≤ rs) : OwnG p e below s Q rc rs A := by
  obtain ⟨fs, hr, hrun, hended, hW, hsame⟩ := X.leave (v := v) hv hlk
  exact ⟨_, _, k fs hr, hrun, hended, _, _, rfl, hQ, ⟨_, rfl⟩, hW, hsame.mono hc hs⟩
theorem own_outI (X : Stand p l e R s m args below meth c T locs cells slots) (hx : p.tables.exec = Jvm.exec) {pc : Nat} {Ls : Array Slot} {z : Int32} {rest : List Value} (hret : meth.sig.returnType = some .int) (hlk : meth.locks = false) (hd : decode c.code pc = .ok (.ireturn, 1)) (hQ : Q (some (.int z)) T.heap locs) (hc : cells ≤ rc) (hs : slots ≤ rs) :
    OwnG p e below s Q rc rs (T.setTop (mkF m pc Ls (.int z :: rest))) :=
  own_out X (v := some (.int z)) (fun h => by rw [hret] at h; cases h) hlk (fun fs hr => retI X hx hret hd hr) hQ hc hs
theorem own_outA (X : Stand p l e R s m args below meth c T locs cells slots) (hx : p.tables.exec = Jvm.exec) {pc : Nat} {Ls : Array Slot} {w : Value} {ty : FieldType} {rest : List Value} (hw : w.isRef = true) (hty : ty.isReference = true) (hret : meth.sig.returnType = some ty) (hlk : meth.locks = false) (hd : decode c.code pc = .ok (.areturn, 1)) (hQ : Q (some w) T.heap locs) (hc : cells ≤ rc) (hs : slots ≤ rs) :
    OwnG p e below s Q rc rs (T.setTop (mkF m pc Ls (w :: rest))) :=
  own_out X (v := some w) (fun h => by rw [hret] at h; cases h) hlk (fun fs hr => own_retA X hx hw hty hret hd hr) hQ hc hs
theorem own_outL (X : Stand p l e R s m args below meth c T locs cells slots) (hx : p.tables.exec = Jvm.exec) {pc : Nat} {Ls : Array Slot} {z : Int64} {rest : List Value} (hret : meth.sig.returnType = some .long) (hlk : meth.locks = false) (hd : decode c.code pc = .ok (.lreturn, 1)) (hQ : Q (some (.long z)) T.heap locs) (hc : cells ≤ rc) (hs : slots ≤ rs) :
    OwnG p e below s Q rc rs (T.setTop (mkF m pc Ls (.long z :: rest))) :=
  own_out X (v := some (.long z)) (fun h => by rw [hret] at h; cases h) hlk (fun fs hr => own_retL X hx hret hd hr) hQ hc hs
theorem own_outD (X : Stand p l e R s m args below meth c T locs cells slots) (hx : p.tables.exec = Jvm.exec) {pc : Nat} {Ls : Array Slot} {z : UInt64} {rest : List Value} (hret : meth.sig.returnType = some .double) (hlk : meth.locks = false) (hd : decode c.code pc = .ok (.dreturn, 1)) (hQ : Q (some (.double z)) T.heap locs) (hc : cells ≤ rc) (hs : slots ≤ rs) :
    OwnG p e below s Q rc rs (T.setTop (mkF m pc Ls (.double z :: rest))) :=
  own_out X (v := some (.double z)) (fun h => by rw [hret] at h; cases h) hlk (fun fs hr => own_retDbl X hx hret hd hr) hQ hc hs
theorem own_outV (X : Stand p l e R s m args below meth c T locs cells slots) (hx : p.tables.exec = Jvm.exec) {pc : Nat} {Ls : Array Slot} (hret : meth.sig.returnType = none) (hlk : meth.locks = false) (hd : decode c.code pc = .ok (.return_, 1)) (hQ : Q none T.heap locs) (hc : cells ≤ rc) (hs : slots ≤ rs) :
    OwnG p e below s Q rc rs (T.setTop (mkF m pc Ls [])) :=
  own_out X (v := none) (fun _ => rfl) hlk (fun fs hr => X.returnOut hx hret hd hr) hQ hc hs
theorem own_outN (X : Stand p l e R s m args below meth c T locs cells slots) (hx : p.tables.exec = Jvm.exec) {pc : Nat} {Ls : Array Slot} {z z' : Int32} {t : FieldType} {rest : List Value} (hret : meth.sig.returnType = some t) (ht : t = .boolean ∨ t = .byte ∨ t = .char ∨ t = .short) (hlk : meth.locks = false) (hd : decode c.code pc = .ok (.ireturn, 1)) (hz : nar t z = z') (hQ : Q (some (.int z')) T.heap locs) (hc : cells ≤ rc) (hs : slots ≤ rs) :
    OwnG p e below s Q rc rs (T.setTop (mkF m pc Ls (.int z :: rest))) := by
  subst hz
  exact own_out X (v := some (.int (nar t z))) (fun h => by rw [hret] at h; cases h) hlk (fun fs hr => retN X hx (t := t) hret (by rcases ht with rfl | rfl | rfl | rfl <;> simp) hd hr) hQ hc hs
theorem own_met {y : MethodName} {bytes : ByteArray} {maxL : Nat} {ret : Option FieldType} {rm : Room} {ws : List Cond} {as' : Array Value} {Z : State} {h0 : Heap} (hpl : plainFor y = true)
    (body : ∀ (p : Program) (e : Env) (s : State) (m : MethodId) (below : List Frame) (meth : Method) (c : Code) (s₁ : State), p.tables.exec = Jvm.exec → c.code = bytes → c.maxLocals = maxL → meth.sig.returnType = ret → meth.locks = false → s.vm.findClass y.cls = some m.cls → meth.name = y.name → Z.Warmed39 s.vm →
      Stand p l e rm s m as' below meth c s₁ [] 0 0 → s₁.heap = h0 → OwnG p e below s Q rm.cells rm.slots (s₁.setTop (entryFrame m as' maxL))) :
    MetFree l y (head1 (Cond.code y bytes maxL ret :: ws) rm) (fun a U => a = as' ∧ Z.Warmed39 U.vm ∧ U.heap = h0) (fun _ _ _ _ _ => True) (fun _ U o U' => ∃ v L, o = .returned v ∧ Q v U'.heap L ∧ FrameEnd U o U' L rm.cells rm.slots) := by
  refine MetFree.of_bodySF hpl hisR ?_
  intro p e s m args below meth c s₁ Bd hml0 hP hK
  obtain ⟨rfl, hZ, hh⟩ := hP
  have e0 : s₁.heap = h0 := by rw [← hh, Bd.state]; rfl
  exact body p e s m below meth c s₁ Bd.exec Bd.bytes hml0 Bd.returns Bd.notSynchronized (findClass_of_methodNamed Bd.named) (name_of_methodNamed Bd.named Bd.method).1 hZ (Stand.of_body Bd) e0
theorem own_pop2J {tb : Tables} [Ours tb] {target : State} {g : JFrame} (h : At T m c below) (hx : tb.exec = Jvm.exec) (hg : g.method = m) {x : Int64} {rest : List Value} (hd : decode c.code g.pc = .ok (.pop2, 1)) (hs : g.stack = .long x :: rest)
    (hr : Steps tb e below (T.setTop { g with pc := g.pc + 1, stack := rest }) target) : Steps tb e below (T.setTop g) target := by
  subst hg
  jvm_step h [h.top, hx, hd, hs, Value.category]
  exact hr
theorem own_dup2I {tb : Tables} [Ours tb] {target : State} {g : JFrame} (h : At T m c below) (hx : tb.exec = Jvm.exec) (hg : g.method = m) {x : Int32} {a : Addr} {rest : List Value} (hd : decode c.code g.pc = .ok (.dup2, 1)) (hs : g.stack = .int x :: .ref a :: rest)
    (hr : Steps tb e below (T.setTop { g with pc := g.pc + 1, stack := .int x :: .ref a :: .int x :: .ref a :: rest }) target) : Steps tb e below (T.setTop g) target := by
  subst hg
  jvm_step h [h.top, hx, hd, hs, Value.category]
  exact hr
theorem own_selp {Z s : State} {a0 args : Array Value} {y : MethodName} {n : Nat} (hZ : Z.Warmed39 s.vm) (wi : (Cond.instantiable y.cls n).before a0 Z = true) (wp : (Cond.privateMethod y).before a0 Z = true) (wm : (Cond.instanceMethod y).before a0 Z = true) (hy : y.cls ≠ "java/lang/invoke/MethodHandle" ∧ y.cls ≠ "java/lang/invoke/VarHandle") : (Cond.selects y.cls y y).before args s = true := by
  obtain ⟨c, k, h1, h2, -, h4, -⟩ := Cond.instantiable_spec (mv (args := args) hZ wi)
  exact selects_self_of_private h1 h2 (Bool.or_eq_false_iff.mp h4).1 (Cond.privateMethod_at (mvP hZ wp (args := #[]))) (mvT hZ wm) hy
end OwnKit
end Jvm.RoadKit
namespace Jvm.RoadKit
open Sem ClassFile Op Lib Jvm.Stand Jvm.Free Jvm.LawKit
section OwnArr
variable {p : Program} {l : Launch} {e : Env} {R : Room} {s : State} {m : MethodId} {args : Array Value} {below : List Frame} {meth : Method} {c : Code} {T : State} {locs : List Loc} {cells slots : Nat} {Z : State} {h h' : Heap} {a b : Addr} {ty : FieldType} {n : Nat} {f : Nat → Value}
/-- the array at a: its kind, its length, its components as a function of the place -/
def OwnA (Z : State) (h : Heap) (a : Addr) (ty : FieldType) (n : Nat) (f : Nat → Value) : Prop := ∃ c : Cell, Arr Z h a c ty ∧ c.slots.size = n ∧ n < 2 ^ 31 ∧ ∀ k, k < n → c.slots[k]? = some (f k)
def ownSet (f : Nat → Value) (i : Nat) (v : Value) : Nat → Value := fun k => if k = i then v else f k
theorem OwnA.lt (A : OwnA Z h a ty n f) : a < h.size := by obtain ⟨c, A, -⟩ := A; exact A.lt
theorem OwnA.ext (E : Ext h h') (A : OwnA Z h a ty n f) : OwnA Z h' a ty n f := by obtain ⟨c, A, r⟩ := A; exact ⟨c, A.ext E, r⟩
theorem OwnA.other {sl : Nat} {v : Value} (W : Wr h h' b sl v) (A : OwnA Z h a ty n f) (q : a ≠ b) : OwnA Z h' a ty n f := by obtain ⟨c, A, r⟩ := A; exact ⟨c, A.other W q, r⟩
theorem OwnA.keep {ws : List Addr} (A : OwnA Z h a ty n f) (K : Keep h h' ws) (q : a ∉ ws) : OwnA Z h' a ty n f := by obtain ⟨c, A, r⟩ := A; exact ⟨c, ⟨K.2.1 a c A.1 q, A.2⟩, r⟩
theorem OwnA.set {i : Nat} {v : Value} (W : Wr h h' a i v) (A : OwnA Z h a ty n f) (hi : i < n) : OwnA Z h' a ty n (ownSet f i v) := by
  obtain ⟨c, A, hn, hb, r⟩ := A
  refine ⟨_, A.same W, by simp [Cell.setSlot, hn], hb, fun k hk => ?_⟩
  by_cases e : k = i
  · subst e
    simp [Cell.setSlot, ownSet, hn, hi]
  · simp only [ownSet, if_neg e]
    rw [← r k hk]
    exact Array.getElem?_setIfInBounds_ne (Ne.symm e)
theorem OwnA.new {k : ClassId} {z : Int32} (A : Arr Z h a (newA k ty z) ty) {n : Nat} (q : ¬ z < 0) (hn : z.toNatClampNeg = n) : OwnA Z h a ty n (fun _ => defaultValue ty) := by
  subst hn
  refine ⟨_, A, sz_new _ _ _, (back32 q).2, fun i hi => ?_⟩
  simp [newA, hi]
theorem OwnA.bound (A : OwnA Z h a ty n f) : n < 2 ^ 31 := by obtain ⟨_, _, _, hb, _⟩ := A; exact hb
theorem OwnA.congr {f' : Nat → Value} (A : OwnA Z h a ty n f) (q : ∀ k, k < n → f k = f' k) : OwnA Z h a ty n f' := by
  obtain ⟨c, A, hn, hb, r⟩ := A
  exact ⟨c, A, hn, hb, fun k hk => by rw [r k hk, q k hk]⟩
theorem own_inb {c : Cell} {j : Int32} {i : Nat} (hn : c.slots.size = n) (hj : ¬ j < 0 ∧ j.toNatClampNeg = i ∧ i < n) : ¬ (j < 0 ∨ c.slots.size ≤ j.toNatClampNeg) := by
  rintro (q | q)
  · exact hj.1 q
  · rw [hn, hj.2.1] at q; exact absurd hj.2.2 (Nat.not_lt.mpr q)
theorem own_ldI (X : Stand p l e R s m args below meth c T locs cells slots) (hx : p.tables.exec = Jvm.exec) (hZ : Z.Warmed39 s.vm) (eT : T.heap = h) (A : OwnA Z h a .int n f) {j : Int32} {i : Nat} (hj : ¬ j < 0 ∧ j.toNatClampNeg = i ∧ i < n) {v : Value} (hv : f i = v) {g : JFrame} (hg : g.method = m) {rest : List Value} (hs : g.stack = .int j :: .ref a :: rest) (hd : decode c.code g.pc = .ok (.iaload, 1)) (target : State)
    (k : Steps p.tables e below (T.setTop { g with pc := g.pc + 1, stack := v :: rest }) target) : Steps p.tables e below (T.setTop g) target := by
  obtain ⟨cl, A, hn, hb, r⟩ := A
  exact X.iaload hx (j := j) (v := v) (by rw [eT]; exact A.1) (State.isArrayOf_alike hZ.alike A.2.1) A.2.2 (own_inb hn hj) (by rw [hj.2.1, r i hj.2.2, hv]) hg hs hd target k
theorem own_ldB (X : Stand p l e R s m args below meth c T locs cells slots) (hx : p.tables.exec = Jvm.exec) (hZ : Z.Warmed39 s.vm) (eT : T.heap = h) (A : OwnA Z h a .byte n f) {j : Int32} {i : Nat} (hj : ¬ j < 0 ∧ j.toNatClampNeg = i ∧ i < n) {v : Value} (hv : f i = v) {g : JFrame} (hg : g.method = m) {rest : List Value} (hs : g.stack = .int j :: .ref a :: rest) (hd : decode c.code g.pc = .ok (.baload, 1)) (target : State)
    (k : Steps p.tables e below (T.setTop { g with pc := g.pc + 1, stack := v :: rest }) target) : Steps p.tables e below (T.setTop g) target := by
  obtain ⟨cl, A, hn, hb, r⟩ := A
  exact X.baloadBytes hx (j := j) (v := v) (by rw [eT]; exact A.1) (State.isArrayOf_alike hZ.alike A.2.1) A.2.2 (own_inb hn hj) (by rw [hj.2.1, r i hj.2.2, hv]) hg hs hd target k
theorem own_ldJ (X : Stand p l e R s m args below meth c T locs cells slots) (hx : p.tables.exec = Jvm.exec) (hZ : Z.Warmed39 s.vm) (eT : T.heap = h) (A : OwnA Z h a .long n f) {j : Int32} {i : Nat} (hj : ¬ j < 0 ∧ j.toNatClampNeg = i ∧ i < n) {v : Value} (hv : f i = v) {g : JFrame} (hg : g.method = m) {rest : List Value} (hs : g.stack = .int j :: .ref a :: rest) (hd : decode c.code g.pc = .ok (.laload, 1)) (target : State)
    (k : Steps p.tables e below (T.setTop { g with pc := g.pc + 1, stack := v :: rest }) target) : Steps p.tables e below (T.setTop g) target := by
  obtain ⟨cl, A, hn, hb, r⟩ := A
  exact X.laload hx (j := j) (v := v) (by rw [eT]; exact A.1) (State.isArrayOf_alike hZ.alike A.2.1) A.2.2 (own_inb hn hj) (by rw [hj.2.1, r i hj.2.2, hv]) hg hs hd target k
theorem own_ldR (X : Stand p l e R s m args below meth c T locs cells slots) (hx : p.tables.exec = Jvm.exec) (hZ : Z.Warmed39 s.vm) (eT : T.heap = h) (A : OwnA Z h a ty n f) {j : Int32} {i : Nat} (hj : ¬ j < 0 ∧ j.toNatClampNeg = i ∧ i < n) {v : Value} (hv : f i = v) (hty : ty.isReference = true) {g : JFrame} (hg : g.method = m) {rest : List Value} (hs : g.stack = .int j :: .ref a :: rest) (hd : decode c.code g.pc = .ok (.aaload, 1)) (target : State)
    (k : Steps p.tables e below (T.setTop { g with pc := g.pc + 1, stack := v :: rest }) target) : Steps p.tables e below (T.setTop g) target := by
  obtain ⟨cl, A, hn, hb, r⟩ := A
  exact X.aaload hx (j := j) (v := v) (by rw [eT]; exact A.1) (State.isArrayOf_alike hZ.alike A.2.1) hty A.2.2 (own_inb hn hj) (by rw [hj.2.1, r i hj.2.2, hv]) hg hs hd target k
theorem own_len (X : Stand p l e R s m args below meth c T locs cells slots) (hx : p.tables.exec = Jvm.exec) (hZ : Z.Warmed39 s.vm) (eT : T.heap = h) (A : OwnA Z h a ty n f) {z : Int32} (hz : n.toInt32 = z) {g : JFrame} (hg : g.method = m) {rest : List Value} (hs : g.stack = .ref a :: rest) (hd : decode c.code g.pc = .ok (.arraylength, 1)) (target : State)
    (k : Steps p.tables e below (T.setTop { g with pc := g.pc + 1, stack := .int z :: rest }) target) : Steps p.tables e below (T.setTop g) target := by
  obtain ⟨cl, A, hn, hb, r⟩ := A
  refine X.arraylength hx (by rw [eT]; exact A.1) (State.isArrayOf_alike hZ.alike A.2.1) hg hs hd target ?_
  rw [hn, hz]; exact k
theorem own_stI (X : Stand p l e R s m args below meth c T locs cells slots) (hx : p.tables.exec = Jvm.exec) (hZ : Z.Warmed39 s.vm) (eT : T.heap = h) (A : OwnA Z h a .int n f) {j : Int32} {i : Nat} (hj : ¬ j < 0 ∧ j.toNatClampNeg = i ∧ i < n) {x : Int32} {g : JFrame} (hg : g.method = m) {rest : List Value} (hs : g.stack = .int x :: .int j :: .ref a :: rest) (hd : decode c.code g.pc = .ok (.iastore, 1)) :
    ∃ T' h', Stand p l e R s m args below meth c T' (locs ++ [⟨a, i⟩]) cells slots ∧ T'.heap = h' ∧ Wr h h' a i (.int x) ∧ OwnA Z h' a .int n (ownSet f i (.int x)) ∧ ∀ target, Steps p.tables e below (T'.setTop { g with pc := g.pc + 1, stack := rest }) target → Steps p.tables e below (T.setTop g) target := by
  obtain ⟨cl, A', hn, hb, r⟩ := A
  obtain ⟨T', h', X', e', W, st⟩ := stI X hx hZ eT A' (j := j) (x := x) (own_inb hn hj) hg hs hd
  rw [hj.2.1] at X' W
  exact ⟨T', h', X', e', W, OwnA.set W ⟨cl, A', hn, hb, r⟩ hj.2.2, st⟩
theorem own_stJ (X : Stand p l e R s m args below meth c T locs cells slots) (hx : p.tables.exec = Jvm.exec) (hZ : Z.Warmed39 s.vm) (eT : T.heap = h) (A : OwnA Z h a .long n f) {j : Int32} {i : Nat} (hj : ¬ j < 0 ∧ j.toNatClampNeg = i ∧ i < n) {x : Int64} {g : JFrame} (hg : g.method = m) {rest : List Value} (hs : g.stack = .long x :: .int j :: .ref a :: rest) (hd : decode c.code g.pc = .ok (.lastore, 1)) :
    ∃ T' h', Stand p l e R s m args below meth c T' (locs ++ [⟨a, i⟩]) cells slots ∧ T'.heap = h' ∧ Wr h h' a i (.long x) ∧ OwnA Z h' a .long n (ownSet f i (.long x)) ∧ ∀ target, Steps p.tables e below (T'.setTop { g with pc := g.pc + 1, stack := rest }) target → Steps p.tables e below (T.setTop g) target := by
  obtain ⟨cl, A', hn, hb, r⟩ := A
  obtain ⟨T', h', X', e', W, st⟩ := stJ X hx hZ eT A' (j := j) (x := x) (own_inb hn hj) hg hs hd
  rw [hj.2.1] at X' W
  exact ⟨T', h', X', e', W, OwnA.set W ⟨cl, A', hn, hb, r⟩ hj.2.2, st⟩
theorem own_stB (X : Stand p l e R s m args below meth c T locs cells slots) (hx : p.tables.exec = Jvm.exec) (hZ : Z.Warmed39 s.vm) (eT : T.heap = h) (A : OwnA Z h a .byte n f) {j : Int32} {i : Nat} (hj : ¬ j < 0 ∧ j.toNatClampNeg = i ∧ i < n) {x : Int32} {g : JFrame} (hg : g.method = m) {rest : List Value} (hs : g.stack = .int x :: .int j :: .ref a :: rest) (hd : decode c.code g.pc = .ok (.bastore, 1)) :
    ∃ T' h', Stand p l e R s m args below meth c T' (locs ++ [⟨a, i⟩]) cells slots ∧ T'.heap = h' ∧ Wr h h' a i (.int (nar .byte x)) ∧ OwnA Z h' a .byte n (ownSet f i (.int (nar .byte x))) ∧ ∀ target, Steps p.tables e below (T'.setTop { g with pc := g.pc + 1, stack := rest }) target → Steps p.tables e below (T.setTop g) target := by
  obtain ⟨cl, A', hn, hb, r⟩ := A
  obtain ⟨T', h', X', e', W, st⟩ := stB X hx hZ eT A' (j := j) (x := x) (own_inb hn hj) hg hs hd
  rw [hj.2.1] at X' W
  exact ⟨T', h', X', e', W, OwnA.set W ⟨cl, A', hn, hb, r⟩ hj.2.2, st⟩
theorem own_ldD (X : Stand p l e R s m args below meth c T locs cells slots) (hx : p.tables.exec = Jvm.exec) (hZ : Z.Warmed39 s.vm) (eT : T.heap = h) (A : OwnA Z h a .double n f) {j : Int32} {i : Nat} (hj : ¬ j < 0 ∧ j.toNatClampNeg = i ∧ i < n) {v : Value} (hv : f i = v) {g : JFrame} (hg : g.method = m) {rest : List Value} (hs : g.stack = .int j :: .ref a :: rest) (hd : decode c.code g.pc = .ok (.daload, 1)) (target : State)
    (k : Steps p.tables e below (T.setTop { g with pc := g.pc + 1, stack := v :: rest }) target) : Steps p.tables e below (T.setTop g) target := by
  obtain ⟨cl, A, hn, hb, r⟩ := A
  exact X.daload hx (j := j) (v := v) (by rw [eT]; exact A.1) (State.isArrayOf_alike hZ.alike A.2.1) A.2.2 (own_inb hn hj) (by rw [hj.2.1, r i hj.2.2, hv]) hg hs hd target k
theorem own_stD (X : Stand p l e R s m args below meth c T locs cells slots) (hx : p.tables.exec = Jvm.exec) (hZ : Z.Warmed39 s.vm) (eT : T.heap = h) (A : OwnA Z h a .double n f) {j : Int32} {i : Nat} (hj : ¬ j < 0 ∧ j.toNatClampNeg = i ∧ i < n) {x : UInt64} {g : JFrame} (hg : g.method = m) {rest : List Value} (hs : g.stack = .double x :: .int j :: .ref a :: rest) (hd : decode c.code g.pc = .ok (.dastore, 1)) :
    ∃ T' h', Stand p l e R s m args below meth c T' (locs ++ [⟨a, i⟩]) cells slots ∧ T'.heap = h' ∧ Wr h h' a i (.double x) ∧ OwnA Z h' a .double n (ownSet f i (.double x)) ∧ ∀ target, Steps p.tables e below (T'.setTop { g with pc := g.pc + 1, stack := rest }) target → Steps p.tables e below (T.setTop g) target := by
  obtain ⟨cl, A', hn, hb, r⟩ := A
  obtain ⟨T', h', X', e', W, st⟩ := stD X hx hZ eT A' (j := j) (x := x) (own_inb hn hj) hg hs hd
  rw [hj.2.1] at X' W
  exact ⟨T', h', X', e', W, OwnA.set W ⟨cl, A', hn, hb, r⟩ hj.2.2, st⟩
end OwnArr
end Jvm.RoadKit
namespace Jvm.Pilot.@@N@@
open Jvm Jvm.ClassFile Sem Op Lib Jvm.Free Jvm.Stand Jvm.LawKit Jvm.RoadKit Bundle Jvm.Pilot.@@N@@.Jvm.D
/-! the plain law: bytes, the loaded bits -/
theorem own_ofNat (i : Nat) (h : i < 2 ^ 31) : i.toInt32.toInt = i := len_toInt h
theorem own_z : (0 : Int32).toInt = 0 := by decide
theorem own_le56 (i : Nat) (h : i ≤ 4) : ¬ (56 : Int32) < (8 * i).toInt32 := by
  rw [Int32.lt_iff_toInt_lt, own_ofNat _ (by omega), show (56 : Int32).toInt = 56 from by decide]; omega
theorem own_irr (x : Int32) : ¬ x < x := by rw [Int32.lt_iff_toInt_lt]; omega
theorem own_ilt {i n : Nat} (h : i < n) (hn : n ≤ 100) : i.toInt32 < n.toInt32 := by
  rw [Int32.lt_iff_toInt_lt, own_ofNat _ (by omega), own_ofNat _ (by omega)]; omega
theorem own_nlt {x c : Nat} (h : c ≤ x) (hx : x ≤ 100) : ¬ x.toInt32 < c.toInt32 := by
  rw [Int32.lt_iff_toInt_lt, own_ofNat _ (by omega), own_ofNat _ (by omega)]; omega
theorem own_0lt {c : Nat} (h : 0 < c) (hc : c ≤ 100) : (0 : Int32) < c.toInt32 := by
  rw [Int32.lt_iff_toInt_lt, own_ofNat _ (by omega), own_z]; omega
theorem own_nz {c : Nat} (h : 0 < c) (hc : c ≤ 100) : ¬ c.toInt32 = 0 := fun q => by
  have := congrArg Int32.toInt q
  rw [own_ofNat _ (by omega), own_z] at this; omega
theorem own_ix {i n : Nat} (h : i < n) (hn : n ≤ 100) : ¬ i.toInt32 < 0 ∧ i.toInt32.toNatClampNeg = i ∧ i < n := by
  have e := own_ofNat i (by omega)
  refine ⟨?_, ?_, h⟩
  · rw [Int32.lt_iff_toInt_lt, e, own_z]; omega
  · simp only [Int32.toNatClampNeg, e]; omega
theorem own_i1 (i : Nat) : i.toInt32 + 1 = (i + 1).toInt32 := (Int32.ofNat_add i 1).symm
theorem own_i8p (i : Nat) : (8 * i).toInt32 + 8 = (8 * (i + 1)).toInt32 := (Int32.ofNat_add (8 * i) 8).symm
theorem own_sub8 {x c : Nat} (h : c ≤ x) (hx : x ≤ 100) {y : Nat} (hy : y = x - c) : x.toInt32 - c.toInt32 = y.toInt32 := by
  subst hy
  apply Int32.toInt_inj.mp
  have := c_isub x.toInt32 c.toInt32
  have := rng32 (x.toInt32 - c.toInt32)
  rw [own_ofNat x (by omega), own_ofNat c (by omega)] at *
  rw [own_ofNat (x - c) (by omega)]
  omega
def own_pad (P : Prop) [Decidable P] : Int32 := if P then 1 else 0
/-- the byte at the place i, as the law writes it -/
def own_b (b : Int32) (i : Nat) : Int32 := (⟨⟨b.toBitVec >>> (24 - 8 * i)⟩⟩ : Int32).toInt8.toInt32
/-- the top 8 i bits of b, at the top of a long, k of them shifted out -/
def own_L (b : Int32) (i k : Nat) : Int64 := ⟨⟨((b.toBitVec >>> (32 - 8 * i)).setWidth 64) <<< (64 - 8 * i + k)⟩⟩
theorem own_Lbit (b : Int32) (i k j : Nat) (hi : i ≤ 4) (hj : j < 64) : (own_L b i k).toBitVec.getLsbD j = (decide (64 - 8 * i + k ≤ j) && b.toBitVec.getLsbD (j - k - 32)) := by
  show ((((b.toBitVec >>> (32 - 8 * i)).setWidth 64) <<< (64 - 8 * i + k)).getLsbD j) = _
  simp only [BitVec.getLsbD_shiftLeft, BitVec.getLsbD_setWidth, BitVec.getLsbD_ushiftRight]
  by_cases q : 64 - 8 * i + k ≤ j
  · have e : 32 - 8 * i + (j - (64 - 8 * i + k)) = j - k - 32 := by omega
    simp [q, hj, Nat.not_lt.mpr q, show j - (64 - 8 * i + k) < 64 from by omega, e]
  · simp [q, Nat.lt_of_not_le q]
theorem own_L0 (b : Int32) : own_L b 0 0 = 0 := by
  apply Int64.toBitVec_inj.mp
  apply BitVec.eq_of_getLsbD_eq
  intro j hj
  rw [own_Lbit b 0 0 j (by omega) hj]
  simp [show ¬ 64 ≤ j from by omega]
theorem own_shl (x : Int64) (q : Int32) (k : Nat) (hk : q.toBitVec.toNat = k) (h : k < 64) (j : Nat) (hj : j < 64) : (x <<< (q &&& 0x3f).toInt64).toBitVec.getLsbD j = (decide (k ≤ j) && x.toBitVec.getLsbD (j - k)) := by
  obtain ⟨e1, e2⟩ := sm64 q k (by omega)
  rw [Int64.toBitVec_shiftLeft, e1]
  have e3 := smod64 k h
  have : (x.toBitVec <<< ((BitVec.ofNat 64 k).smod 64)).getLsbD j = (x.toBitVec <<< ((BitVec.ofNat 64 k).smod 64).toNat).getLsbD j := rfl
  rw [this, e3, BitVec.getLsbD_shiftLeft]
  by_cases q : k ≤ j
  · simp [hj, q, Nat.not_lt.mpr q]
  · simp [q, Nat.lt_of_not_le q]
theorem own_ub (z : Int32) (j : Nat) (hj : j < 64) : (z.toInt8.toInt32.toInt64 &&& 255).toBitVec.getLsbD j = (decide (j < 8) && z.toBitVec.getLsbD j) := by
  rw [Int64.toBitVec_and]
  have e0 : z.toInt8.toInt32.toInt64.toBitVec = (z.toBitVec.signExtend 8).signExtend 64 := by simp
  rw [e0]
  show ((z.toBitVec.signExtend 8).signExtend 64 &&& 255#64).getLsbD j = _
  have e : (255#64).getLsbD j = decide (j < 8) := by
    have : (255#64) = BitVec.ofNat 64 (2 ^ 8 - 1) := rfl
    rw [this, BitVec.getLsbD_ofNat, Nat.testBit_two_pow_sub_one]; simp [hj]
  rw [BitVec.getLsbD_and, e]
  by_cases q : j < 8
  · rw [BitVec.getLsbD_signExtend, BitVec.getLsbD_signExtend]; simp [q, hj, show j < 32 from by omega]
  · simp [q]
theorem own_Lstep (b : Int32) (i : Nat) (hi : i < 4) : (own_L b i 0 ||| ((own_b b i).toInt64 &&& 255) <<< (((56 : Int32) - (8 * i).toInt32) &&& 0x3f).toInt64) = own_L b (i + 1) 0 := by
  apply Int64.toBitVec_inj.mp
  apply BitVec.eq_of_getLsbD_eq
  intro j hj
  have hk : ((56 : Int32) - (8 * i).toInt32).toBitVec.toNat = 56 - 8 * i := by
    rcases i with _ | _ | _ | _ | i <;> first | rfl | omega
  rw [Int64.toBitVec_or, BitVec.getLsbD_or, own_Lbit b i 0 j (by omega) hj, own_Lbit b (i + 1) 0 j (by omega) hj, own_shl _ _ (56 - 8 * i) hk (by omega) j hj]
  by_cases q : 56 - 8 * i ≤ j
  · rw [own_b, own_ub _ _ (by omega)]
    show (_ || (_ && (_ && (b.toBitVec >>> (24 - 8 * i)).getLsbD _))) = _
    rw [BitVec.getLsbD_ushiftRight]
    by_cases q2 : 64 - 8 * i ≤ j
    · simp [q, q2, show ¬ j - (56 - 8 * i) < 8 from by omega, show 64 - 8 * (i + 1) ≤ j from by omega]
    · have e : 24 - 8 * i + (j - (56 - 8 * i)) = j - 32 := by omega
      simp [q, q2, show j - (56 - 8 * i) < 8 from by omega, show 64 - 8 * (i + 1) ≤ j from by omega, e]
  · simp [q, show ¬ 64 - 8 * i ≤ j from by omega, show ¬ 64 - 8 * (i + 1) ≤ j from by omega]
theorem own_c32 {c : Nat} (h : c ≤ 32) : c.toInt32.toBitVec.toNat = c := by
  show (BitVec.ofNat 32 c).toNat = c
  rw [BitVec.toNat_ofNat]; omega
theorem own_Lshl (b : Int32) (n k c : Nat) (hn : n ≤ 4) (hc : k + c ≤ 32) : own_L b n k <<< (c.toInt32 &&& 0x3f).toInt64 = own_L b n (k + c) := by
  apply Int64.toBitVec_inj.mp
  apply BitVec.eq_of_getLsbD_eq
  intro j hj
  rw [own_shl _ _ c (own_c32 (by omega)) (by omega) j hj, own_Lbit b n (k + c) j hn hj]
  by_cases q : c ≤ j
  · rw [own_Lbit b n k (j - c) hn (by omega)]
    have e : j - c - k - 32 = j - (k + c) - 32 := by omega
    by_cases q2 : 64 - 8 * n + (k + c) ≤ j
    · simp [q, q2, show 64 - 8 * n + k ≤ j - c from by omega, e]
    · simp [q, q2, show ¬ 64 - 8 * n + k ≤ j - c from by omega]
  · simp [q, show ¬ 64 - 8 * n + (k + c) ≤ j from by omega]
theorem own_mul8 (n : Nat) : (8 : Int32) * n.toInt32 = (8 * n).toInt32 := (Int32.ofNat_mul 8 n).symm
theorem own_max (x : Int32) : 0 ≤ (x &&& 2147483647).toInt := by
  rw [c_mask x 2147483647 31 (by decide) (by decide)]
  exact Int.emod_nonneg _ (by decide)
theorem own_irem (x y : Int32) : x - (x / y) * y = x % y := Jvm.irem_eq_mod x y
theorem own_rem (x y : Int32) (T : Nat) (hT : T < 1000) (hy : y = (T + 1).toInt32) : ∃ k : Nat, k ≤ T ∧ (x &&& 2147483647) - ((x &&& 2147483647) / y) * y = k.toInt32 := by
  have h := own_max x
  generalize x &&& 2147483647 = z at *
  have ey : y.toInt = ((T + 1 : Nat) : Int) := by rw [hy]; exact own_ofNat _ (by omega)
  have e : z - (z / y) * y = z % y := by
    exact own_irem z y
  have hz := (c_irem z y _ ey).1 h
  have b1 := Int.emod_nonneg z.toInt (show ((T + 1 : Nat) : Int) ≠ 0 from by omega)
  have b2 := Int.emod_lt_of_pos z.toInt (show (0 : Int) < ((T + 1 : Nat) : Int) from by omega)
  refine ⟨(z.toInt % ((T + 1 : Nat) : Int)).toNat, by omega, ?_⟩
  rw [e]
  apply Int32.toInt_inj.mp
  rw [hz, own_ofNat _ (by omega)]
  omega
theorem own_w (b q : Int32) (k : Nat) (hq : (q &&& 31).toUInt32.toBitVec = BitVec.ofNat 32 k) (hk : k < 32) : (b.toUInt32 >>> (q &&& 31).toUInt32).toInt32 = ⟨⟨b.toBitVec >>> k⟩⟩ := by
  apply Int32.toBitVec_inj.mp
  show (b.toUInt32 >>> (q &&& 31).toUInt32).toBitVec = b.toBitVec >>> k
  rw [UInt32.toBitVec_shiftRight, hq]
  apply BitVec.eq_of_toNat_eq
  simp
  congr 1
  omega
theorem own_i8 (z : Int32) : nar .byte z.toInt8.toInt32 = z.toInt8.toInt32 := by simp [nar]
theorem own_b0 (b : Int32) : nar .byte ((b.toUInt32 >>> ((24 : Int32) &&& 31).toUInt32).toInt32).toInt8.toInt32 = own_b b 0 := by rw [own_i8, own_w b 24 24 (by decide) (by decide)]; rfl
theorem own_b1 (b : Int32) : nar .byte ((b.toUInt32 >>> ((16 : Int32) &&& 31).toUInt32).toInt32).toInt8.toInt32 = own_b b 1 := by rw [own_i8, own_w b 16 16 (by decide) (by decide)]; rfl
theorem own_b2 (b : Int32) : nar .byte ((b.toUInt32 >>> ((8 : Int32) &&& 31).toUInt32).toInt32).toInt8.toInt32 = own_b b 2 := by rw [own_i8, own_w b 8 8 (by decide) (by decide)]; rfl
theorem own_b3 (b : Int32) : nar .byte b.toInt8.toInt32 = own_b b 3 := by rw [own_i8]; rfl
/-- what is left of the stream, as the law reckons it -/
def own_rest (b : Int32) (n k : Nat) : Int64 := (((b.toInt64 &&& 4294967295).toUInt64 >>> (((32 : Int32) - (8 * n).toInt32) &&& 0x3f).toInt64.toUInt64).toInt64) &&& (((1 : Int64) <<< ((8 * n - k).toInt32 &&& 0x3f).toInt64) - 1)
theorem own_padeq {P Q : Prop} [Decidable P] [Decidable Q] (h : P ↔ Q) : own_pad P = own_pad Q := by
  unfold own_pad
  by_cases q : Q
  · rw [if_pos (h.mpr q), if_pos q]
  · rw [if_neg (fun p => q (h.mp p)), if_neg q]
theorem own_left (n k1 k2 : Nat) (hk : k1 + k2 ≤ 8 * n) (h : 8 * n ≤ 100) : (8 * n).toInt32 - k1.toInt32 - k2.toInt32 = (8 * n - (k1 + k2)).toInt32 := by
  rw [own_sub8 (x := 8 * n) (c := k1) (by omega) h rfl, own_sub8 (by omega) (by omega) rfl, show 8 * n - k1 - k2 = 8 * n - (k1 + k2) from by omega]
theorem own_tk {n k : Nat} (hk : k ≤ 8 * n) (h : 8 * n ≤ 100) : (8 * n).toInt32 - k.toInt32 + 1 = (8 * n - k + 1).toInt32 := by
  rw [own_sub8 hk h rfl, own_i1]
theorem own_nzT {n : Nat} (h : 8 * n ≤ 100) : (8 * n).toInt32 + 1 ≠ 0 := by
  rw [own_i1]; exact own_nz (by omega) (by omega)
theorem own_nzT2 {n k : Nat} (hk : k ≤ 8 * n) (h : 8 * n ≤ 100) : (8 * n).toInt32 - k.toInt32 + 1 ≠ 0 := by
  rw [own_tk hk h]; exact own_nz (by omega) (by omega)
theorem own_zeroBits (x : Int64) : x = 0 ↔ ∀ j, j < 64 → x.toBitVec.getLsbD j = false := by
  constructor
  · rintro rfl j _
    show (0#64).getLsbD j = false
    simp
  · intro h
    apply Int64.toBitVec_inj.mp
    apply BitVec.eq_of_getLsbD_eq
    intro j hj
    rw [h j hj]
    show _ = (0#64).getLsbD j
    simp
theorem own_mk (q : Int32) (k : Nat) (hk : q.toBitVec.toNat = k) (h : k < 64) (j : Nat) (hj : j < 64) : (((1 : Int64) <<< (q &&& 0x3f).toInt64) - 1).toBitVec.getLsbD j = decide (j < k) := by
  have e : ((1 : Int64) <<< (q &&& 0x3f).toInt64).toBitVec = BitVec.twoPow 64 k := by
    apply BitVec.eq_of_getLsbD_eq
    intro i hi
    rw [own_shl 1 q k hk h i hi, BitVec.getLsbD_twoPow]
    show (decide (k ≤ i) && (1#64).getLsbD (i - k)) = _
    rw [BitVec.getLsbD_one]
    by_cases q1 : i = k
    · subst q1; simp [h]
    · by_cases q2 : k ≤ i
      · simp [q1, q2, show ¬ i - k = 0 from by omega, show ¬ k = i from fun z => q1 z.symm]
      · simp [q1, q2, show ¬ k = i from fun z => q1 z.symm]
  rw [Int64.toBitVec_sub, e]
  have e2 : BitVec.twoPow 64 k - (1 : Int64).toBitVec = BitVec.ofNat 64 (2 ^ k - 1) := by
    apply BitVec.eq_of_toNat_eq
    have hp : 2 ^ k < 2 ^ 64 := Nat.pow_lt_pow_right (by decide) h
    have hp1 : 0 < 2 ^ k := Nat.two_pow_pos k
    show (BitVec.twoPow 64 k - 1#64).toNat = _
    rw [BitVec.toNat_sub, BitVec.toNat_twoPow, BitVec.toNat_ofNat, Nat.mod_eq_of_lt hp]
    simp only [BitVec.toNat_ofNat]
    omega
  rw [e2, BitVec.getLsbD_ofNat, Nat.testBit_two_pow_sub_one]
  simp [hj]
theorem own_lo (b : Int32) (j : Nat) (hj : j < 64) : (b.toInt64 &&& 4294967295).toBitVec.getLsbD j = (decide (j < 32) && b.toBitVec.getLsbD j) := by
  show (b.toBitVec.signExtend 64 &&& 4294967295#64).getLsbD j = _
  have e : (4294967295#64).getLsbD j = decide (j < 32) := by
    have : (4294967295#64) = BitVec.ofNat 64 (2 ^ 32 - 1) := rfl
    rw [this, BitVec.getLsbD_ofNat, Nat.testBit_two_pow_sub_one]; simp [hj]
  rw [BitVec.getLsbD_and, e]
  by_cases q : j < 32
  · rw [BitVec.getLsbD_signExtend]; simp [q, hj]
  · simp [q]
theorem own_ushr (x : Int64) (q : Int32) (k : Nat) (hk : q.toBitVec.toNat = k) (h : k < 64) (j : Nat) (hj : j < 64) : ((x.toUInt64 >>> (q &&& 0x3f).toInt64.toUInt64).toInt64).toBitVec.getLsbD j = x.toBitVec.getLsbD (k + j) := by
  obtain ⟨e1, e2⟩ := sm64 q k (by omega)
  show (x.toUInt64 >>> (q &&& 0x3f).toInt64.toUInt64).toBitVec.getLsbD j = _
  rw [UInt64.toBitVec_shiftRight]
  show (x.toBitVec >>> ((q &&& 0x3f).toInt64.toBitVec % 64)).getLsbD j = _
  rw [e1]
  have : (x.toBitVec >>> (BitVec.ofNat 64 k % 64)) = x.toBitVec >>> k := by
    apply BitVec.eq_of_toNat_eq
    rw [BitVec.toNat_ushiftRight, BitVec.ushiftRight_eq', BitVec.toNat_ushiftRight]
    congr 1
    rw [BitVec.toNat_umod, BitVec.toNat_ofNat]
    show k % 2 ^ 64 % 64 = k
    omega
  rw [this, BitVec.getLsbD_ushiftRight]
theorem own_key (b : Int32) (n k : Nat) (hn : n ≤ 4) (hk : k ≤ 8 * n) : own_rest b n k = 0 ↔ own_L b n k = 0 := by
  have hs : ((32 : Int32) - (8 * n).toInt32).toBitVec.toNat = 32 - 8 * n := by
    rcases n with _ | _ | _ | _ | _ | n <;> first | rfl | omega
  have hr : ∀ j, j < 64 → (own_rest b n k).toBitVec.getLsbD j = (decide (32 - 8 * n + j < 32) && b.toBitVec.getLsbD (32 - 8 * n + j) && decide (j < 8 * n - k)) := fun j hj => by
    unfold own_rest
    rw [Int64.toBitVec_and, BitVec.getLsbD_and, own_ushr _ _ (32 - 8 * n) hs (by omega) j hj, own_mk _ (8 * n - k) (own_c32 (by omega)) (by omega) j hj]
    by_cases q : 32 - 8 * n + j < 64
    · rw [own_lo b _ q]
    · rw [BitVec.getLsbD_of_ge _ _ (by omega)]
      simp [show ¬ 32 - 8 * n + j < 32 from by omega]
  rw [own_zeroBits, own_zeroBits]
  constructor
  · intro h j hj
    rw [own_Lbit b n k j hn hj]
    by_cases q : 64 - 8 * n + k ≤ j
    · have := h (j - (64 - 8 * n + k)) (by omega)
      rw [hr _ (by omega), show 32 - 8 * n + (j - (64 - 8 * n + k)) = j - k - 32 from by omega] at this
      simpa [q, show j - k - 32 < 32 from by omega, show j - (64 - 8 * n + k) < 8 * n - k from by omega] using this
    · simp [q]
  · intro h j hj
    rw [hr j hj]
    by_cases q : j < 8 * n - k
    · have := h (j + (64 - 8 * n + k)) (by omega)
      rw [own_Lbit b n k _ hn (by omega), show j + (64 - 8 * n + k) - k - 32 = 32 - 8 * n + j from by omega] at this
      simpa [q, show 32 - 8 * n + j < 32 from by omega, show 64 - 8 * n + k ≤ j + (64 - 8 * n + k) from by omega] using this
    · simp [q]
theorem own_lt8 {x : Nat} (h : x ≤ 100) : x.toInt32 < 8 ↔ x < 8 := by
  rw [Int32.lt_iff_toInt_lt, own_ofNat _ (by omega), show (8 : Int32).toInt = 8 from by decide]; omega
theorem own_fin1 {b : Int32} {n k1 k2 : Nat} (hk : k1 + k2 ≤ 8 * n) (hn : n ≤ 4) (h1 : (8 * n - (k1 + k2)).toInt32 < 8) (h2 : own_rest b n (k1 + k2) = 0) : own_pad (8 * n - (k1 + k2) < 8 ∧ own_L b n (k1 + k2) = 0) = 1 :=
  if_pos ⟨(own_lt8 (by omega)).mp h1, (own_key b n _ hn hk).mp h2⟩
theorem own_fin0 {b : Int32} {n k1 k2 : Nat} (hk : k1 + k2 ≤ 8 * n) (hn : n ≤ 4) (h1 : ¬ (8 * n - (k1 + k2)).toInt32 < 8) : own_pad (8 * n - (k1 + k2) < 8 ∧ own_L b n (k1 + k2) = 0) = 0 :=
  if_neg fun q => h1 ((own_lt8 (by omega)).mpr q.1)
theorem own_fin0b {b : Int32} {n k1 k2 : Nat} (hk : k1 + k2 ≤ 8 * n) (hn : n ≤ 4) (h1 : (8 * n - (k1 + k2)).toInt32 < 8) (h2 : ¬ own_rest b n (k1 + k2) = 0) : own_pad (8 * n - (k1 + k2) < 8 ∧ own_L b n (k1 + k2) = 0) = 0 :=
  if_neg fun q => h2 ((own_key b n _ hn hk).mpr q.2)
theorem own_padU (b : Int32) (n : Nat) (hn : n ≤ 4) : own_pad ((0 : Int32) = n.toInt32 ∧ (0 : Int32) < 8 ∧ (0 : Int64) = 0) = own_pad (8 * n - (0 + 0) < 8 ∧ own_L b n (0 + 0) = 0) := by
  apply own_padeq
  constructor
  · rintro ⟨h, -, -⟩
    have := congrArg Int32.toInt h
    rw [own_ofNat _ (by omega), own_z] at this
    obtain rfl : n = 0 := by omega
    exact ⟨by decide, own_L0 b⟩
  · rintro ⟨h, -⟩
    obtain rfl : n = 0 := by omega
    exact ⟨rfl, by decide, rfl⟩
theorem own_padL (b : Int32) (n k x : Nat) (hn : n ≤ 4) (hk : k ≤ 8 * n) (hx : x = k) : own_pad (n.toInt32 = n.toInt32 ∧ (8 * n - x).toInt32 < 8 ∧ own_L b n x = 0) = own_pad (8 * n - k < 8 ∧ own_L b n k = 0) := by
  subst hx
  apply own_padeq
  rw [own_lt8 (by omega)]
  simp
def own_O (Z : State) (h : Heap) (a ab : Addr) (nx : Int32) (ld : Int64) (lb : Int32) : Prop := Exa Z h a "com/example/iota_ranker/iotaranker/index/BitInput" ∧ Fld Z h a "com/example/iota_ranker/iotaranker/index/BitInput" "bytes" "[B" (.ref ab) ∧ Fld Z h a "com/example/iota_ranker/iotaranker/index/BitInput" "next" "I" (.int nx) ∧ Fld Z h a "com/example/iota_ranker/iotaranker/index/BitInput" "loaded" "J" (.long ld) ∧ Fld Z h a "com/example/iota_ranker/iotaranker/index/BitInput" "loadedBits" "I" (.int lb)
theorem d1_0 : decode prog_46_method_1_code 0 = .ok (.aload_n 0, 1) := by decide +kernel
theorem d1_1 : decode prog_46_method_1_code 1 = .ok (.invokespecial 3, 3) := by decide +kernel
theorem d1_4 : decode prog_46_method_1_code 4 = .ok (.aload_n 0, 1) := by decide +kernel
theorem d1_5 : decode prog_46_method_1_code 5 = .ok (.aload_n 1, 1) := by decide +kernel
theorem d1_6 : decode prog_46_method_1_code 6 = .ok (.putfield 9, 3) := by decide +kernel
theorem d1_9 : decode prog_46_method_1_code 9 = .ok (.return_, 1) := by decide +kernel
theorem pn_0 : plainName "com/example/iota_ranker/iotaranker/index/BitInput" = true := by first | (simp [plainName, overriddenIn]; done) | decide +kernel
theorem pd_0 : parseMethodDescriptor "()V" = some ⟨[], none⟩ := by decide +kernel
theorem ef_1 (m : MethodId) (x0 : Addr) (x1 : Addr) : entryFrame m #[(.ref x0), (.ref x1)] 2 = mkF m 0 #[.val (.ref x0), .val (.ref x1)] [] := by first | (simp [entryFrame, mkF, argsToLocals, Value.category]; done) | rfl
def Q1 (Z : State) (a1 ab : Addr) (h0 : Heap) (n0 : Nat) (v : Option Value) (h : Heap) (L : List Loc) : Prop := v = none ∧ Fr n0 L ∧ Keep h0 h [a1] ∧ own_O Z h a1 ab 0 0 0
set_option maxRecDepth 65536 in
set_option maxHeartbeats 40000000 in
theorem rm1 (l : Launch) (Z : State) (a0 : Array Value) (hw : ∀ d ∈ tables_1, d.before a0 Z = true) (ws : List Jvm.Cond) (a1 ab : Addr) (h0 : Heap) (n0 : Nat) (Z0 : n0 ≤ h0.size) (EX : Exa Z h0 a1 "com/example/iota_ranker/iotaranker/index/BitInput") (Fbytes : Fld Z h0 a1 "com/example/iota_ranker/iotaranker/index/BitInput" "bytes" "[B" .null) (Fnext : Fld Z h0 a1 "com/example/iota_ranker/iotaranker/index/BitInput" "next" "I" (.int 0)) (Floaded : Fld Z h0 a1 "com/example/iota_ranker/iotaranker/index/BitInput" "loaded" "J" (.long 0)) (FloadedBits : Fld Z h0 a1 "com/example/iota_ranker/iotaranker/index/BitInput" "loadedBits" "I" (.int 0)) (g1 : n0 ≤ a1) :
    MetFree l (⟨"com/example/iota_ranker/iotaranker/index/BitInput", "<init>", "([B)V"⟩ : MethodName) (head1 (Jvm.Cond.code (⟨"com/example/iota_ranker/iotaranker/index/BitInput", "<init>", "([B)V"⟩ : MethodName) prog_46_method_1_code 2 none :: ws) ({ frames := 1, cells := 0, slots := 0, locals := 12 } : Room)) (fun aa_ U => aa_ = #[(.ref a1), (.ref ab)] ∧ Z.Warmed39 U.vm ∧ U.heap = h0) (fun _ _ _ _ _ => True) (fun _ U o U' => ∃ v L, o = .returned v ∧ Q1 Z a1 ab h0 n0 v U'.heap L ∧ FrameEnd U o U' L ({ frames := 1, cells := 0, slots := 0, locals := 12 } : Room).cells ({ frames := 1, cells := 0, slots := 0, locals := 12 } : Room).slots) := by
  refine own_met (Q := fun v h L => Q1 Z a1 ab h0 n0 v h L) (plainFor_of_name pn_0) ?_
  intro p e s m below meth c s₁ hx hby hml hret hlk hown hnm hZ X0 e0
  have N0 := Fr.nil n0
  rw [ef_1 m a1 ab]
  show OwnG p e below s _ _ _ (s₁.setTop (mkF m 0 #[.val (.ref a1), .val (.ref ab)] []))
  refine own_by (fun t kk_ => XS.aloadN X0.here hx rfl (hb hby d1_0) rfl rfl kk_) ?_
  show OwnG p e below s _ _ _ (s₁.setTop (mkF m 1 #[.val (.ref a1), .val (.ref ab)] [(.ref a1)]))
  obtain ⟨T1, X1, e1, st1⟩ := initO X0 hx hZ hown (hw _ (List.mem_of_getElem? (i := 8) rfl)) (hw _ (List.mem_of_getElem? (i := 9) rfl)) (hw _ (List.mem_of_getElem? (i := 10) rfl)) e0 (g := (mkF m 1 #[.val (.ref a1), .val (.ref ab)] [(.ref a1)])) rfl (by rw [hml]; rfl) rfl (hb hby d1_1) (by decide) (W := 0) (by show 2 * 0 + _ ≤ _; exact Nat.le_of_eq rfl) (by decide)
  refine own_by (fun t kk_ => st1 _ kk_) ?_
  show OwnG p e below s _ _ _ (T1.setTop (mkF m 4 #[.val (.ref a1), .val (.ref ab)] []))
  refine own_by (fun t kk_ => XS.aloadN X1.here hx rfl (hb hby d1_4) rfl rfl kk_) ?_
  show OwnG p e below s _ _ _ (T1.setTop (mkF m 5 #[.val (.ref a1), .val (.ref ab)] [(.ref a1)]))
  refine own_by (fun t kk_ => XS.aloadN X1.here hx rfl (hb hby d1_5) rfl rfl kk_) ?_
  show OwnG p e below s _ _ _ (T1.setTop (mkF m 6 #[.val (.ref a1), .val (.ref ab)] [(.ref ab), (.ref a1)]))
  obtain ⟨T2, h2, X2, e2, W2, st2⟩ := putF X1 hx hZ hown (host := "") (Or.inl (hw _ (List.mem_of_getElem? (i := 11) rfl))) Via.refl e1 Fbytes EX (Or.inr ⟨(hw _ (List.mem_of_getElem? (i := 12) rfl)), rfl, hnm⟩) (hw _ (List.mem_of_getElem? (i := 3) rfl)) (ty := (.array .byte)) (by decide) rfl rfl (g := (mkF m 6 #[.val (.ref a1), .val (.ref ab)] [(.ref ab), (.ref a1)])) rfl rfl (hb hby d1_6)
  refine own_by (fun t kk_ => st2 _ kk_) ?_
  have f3 := Exa.wr W2 EX
  have f5 := Fld.other W2 Fnext (Or.inr (slot_ne (Or.inl (hw _ (List.mem_of_getElem? (i := 24) rfl))) (Or.inr (hw _ (List.mem_of_getElem? (i := 12) rfl))) (by decide) (t := .int) (t' := (.array .byte)) (by decide) (by decide)))
  have f6 := Fld.other W2 Floaded (Or.inr (slot_ne (Or.inl (hw _ (List.mem_of_getElem? (i := 28) rfl))) (Or.inr (hw _ (List.mem_of_getElem? (i := 12) rfl))) (by decide) (t := .long) (t' := (.array .byte)) (by decide) (by decide)))
  have f7 := Fld.other W2 FloadedBits (Or.inr (slot_ne (Or.inl (hw _ (List.mem_of_getElem? (i := 26) rfl))) (Or.inr (hw _ (List.mem_of_getElem? (i := 12) rfl))) (by decide) (t := .int) (t' := (.array .byte)) (by decide) (by decide)))
  have f8 := Keep.wr (Keep.refl h0 [a1]) W2 (Or.inl (by simp))
  have f9 := Fld.same W2 Fbytes
  have N2 := Fr.snoc X2 N0 g1
  have sz2 : n0 ≤ h2.size := by rw [W2.size]; exact Z0
  show OwnG p e below s _ _ _ (T2.setTop (mkF m 9 #[.val (.ref a1), .val (.ref ab)] []))
  exact own_outV X2 hx hret hlk (hb hby d1_9) (by show _ ∧ _; rw [e2]; exact ⟨rfl, N2, f8, ⟨f3, f9, f5, f6, f7⟩⟩) (by decide) (by decide)
theorem d5_0 : decode prog_46_method_8_code 0 = .ok (.aload_n 0, 1) := by decide +kernel
theorem d5_1 : decode prog_46_method_8_code 1 = .ok (.getfield 15, 3) := by decide +kernel
theorem d5_4 : decode prog_46_method_8_code 4 = .ok (.bipush 56, 2) := by decide +kernel
theorem d5_6 : decode prog_46_method_8_code 6 = .ok (.if_icmp .gt 70, 3) := by decide +kernel
theorem d5_9 : decode prog_46_method_8_code 9 = .ok (.aload_n 0, 1) := by decide +kernel
theorem d5_10 : decode prog_46_method_8_code 10 = .ok (.getfield 56, 3) := by decide +kernel
theorem d5_13 : decode prog_46_method_8_code 13 = .ok (.aload_n 0, 1) := by decide +kernel
theorem d5_14 : decode prog_46_method_8_code 14 = .ok (.getfield 9, 3) := by decide +kernel
theorem d5_17 : decode prog_46_method_8_code 17 = .ok (.arraylength, 1) := by decide +kernel
theorem d5_18 : decode prog_46_method_8_code 18 = .ok (.if_icmp .ge 58, 3) := by decide +kernel
theorem d5_21 : decode prog_46_method_8_code 21 = .ok (.aload_n 0, 1) := by decide +kernel
theorem d5_22 : decode prog_46_method_8_code 22 = .ok (.dup, 1) := by decide +kernel
theorem d5_23 : decode prog_46_method_8_code 23 = .ok (.getfield 26, 3) := by decide +kernel
theorem d5_26 : decode prog_46_method_8_code 26 = .ok (.aload_n 0, 1) := by decide +kernel
theorem d5_27 : decode prog_46_method_8_code 27 = .ok (.getfield 9, 3) := by decide +kernel
theorem d5_30 : decode prog_46_method_8_code 30 = .ok (.aload_n 0, 1) := by decide +kernel
theorem d5_31 : decode prog_46_method_8_code 31 = .ok (.getfield 56, 3) := by decide +kernel
theorem d5_34 : decode prog_46_method_8_code 34 = .ok (.baload, 1) := by decide +kernel
theorem d5_35 : decode prog_46_method_8_code 35 = .ok (.i2l, 1) := by decide +kernel
theorem d5_36 : decode prog_46_method_8_code 36 = .ok (.ldc2_w 66, 3) := by decide +kernel
theorem d5_39 : decode prog_46_method_8_code 39 = .ok (.land, 1) := by decide +kernel
theorem d5_40 : decode prog_46_method_8_code 40 = .ok (.bipush 56, 2) := by decide +kernel
theorem d5_42 : decode prog_46_method_8_code 42 = .ok (.aload_n 0, 1) := by decide +kernel
theorem d5_43 : decode prog_46_method_8_code 43 = .ok (.getfield 15, 3) := by decide +kernel
theorem d5_46 : decode prog_46_method_8_code 46 = .ok (.isub, 1) := by decide +kernel
theorem d5_47 : decode prog_46_method_8_code 47 = .ok (.lshl, 1) := by decide +kernel
theorem d5_48 : decode prog_46_method_8_code 48 = .ok (.lor, 1) := by decide +kernel
theorem d5_49 : decode prog_46_method_8_code 49 = .ok (.putfield 26, 3) := by decide +kernel
theorem d5_52 : decode prog_46_method_8_code 52 = .ok (.aload_n 0, 1) := by decide +kernel
theorem d5_53 : decode prog_46_method_8_code 53 = .ok (.dup, 1) := by decide +kernel
theorem d5_54 : decode prog_46_method_8_code 54 = .ok (.getfield 56, 3) := by decide +kernel
theorem d5_57 : decode prog_46_method_8_code 57 = .ok (.iconst 1, 1) := by decide +kernel
theorem d5_58 : decode prog_46_method_8_code 58 = .ok (.iadd, 1) := by decide +kernel
theorem d5_59 : decode prog_46_method_8_code 59 = .ok (.putfield 56, 3) := by decide +kernel
theorem d5_62 : decode prog_46_method_8_code 62 = .ok (.aload_n 0, 1) := by decide +kernel
theorem d5_63 : decode prog_46_method_8_code 63 = .ok (.dup, 1) := by decide +kernel
theorem d5_64 : decode prog_46_method_8_code 64 = .ok (.getfield 15, 3) := by decide +kernel
theorem d5_67 : decode prog_46_method_8_code 67 = .ok (.bipush 8, 2) := by decide +kernel
theorem d5_69 : decode prog_46_method_8_code 69 = .ok (.iadd, 1) := by decide +kernel
theorem d5_70 : decode prog_46_method_8_code 70 = .ok (.putfield 15, 3) := by decide +kernel
theorem d5_73 : decode prog_46_method_8_code 73 = .ok (.goto (-73), 3) := by decide +kernel
theorem d5_76 : decode prog_46_method_8_code 76 = .ok (.return_, 1) := by decide +kernel
set_option maxRecDepth 65536 in
set_option maxHeartbeats 40000000 in
theorem own_loop {p : Program} {l : Launch} {e : Env} {s : State} {m : MethodId} {args : Array Value} {below : List Frame} {meth : Method} {c : Code} {T0 : State} {locs : List Loc} {Z : State} {a0 : Array Value} {h0 : Heap} {n0 : Nat} {R : Room} {rc rs : Nat} (b : Int32) (a1 ab : Addr) (n i d : Nat) (hb0 : Heap) (X0 : Stand p l e R s m args below meth c T0 locs (0) (0)) (hx : p.tables.exec = Jvm.exec) (hby : c.code = prog_46_method_8_code) (hml : c.maxLocals = 1) (hret : meth.sig.returnType = none) (hlk : meth.locks = false) (hown : s.vm.findClass "com/example/iota_ranker/iotaranker/index/BitInput" = some m.cls) (hnm : meth.name = "load") (hZ : Z.Warmed39 s.vm) (hw : ∀ d ∈ tables_1, d.before a0 Z = true) (e0 : T0.heap = h0) (N0 : Fr n0 locs) (Z0 : n0 ≤ h0.size) (Kb : Keep hb0 h0 [a1]) (Ob : own_O Z h0 a1 ab i.toInt32 (own_L b i 0) (8 * i).toInt32) (Ab : OwnA Z h0 ab .byte n (fun i => .int (own_b b i))) (nab : a1 ≠ ab) (g1 : n0 ≤ a1) (hin : i ≤ n) (hn4 : n ≤ 4) (hd : n - i = d) :
    OwnG p e below s (fun v h L => v = none ∧ Fr n0 L ∧ Keep hb0 h [a1] ∧ own_O Z h a1 ab n.toInt32 (own_L b n 0) (8 * n).toInt32) rc rs (T0.setTop (mkF m 0 #[.val (.ref a1)] [])) := by
  induction d generalizing i T0 locs h0 with
  | zero =>
    obtain rfl : i = n := by omega
    show OwnG p e below s _ _ _ (T0.setTop (mkF m 0 #[.val (.ref a1)] []))
    refine own_by (fun t kk_ => XS.aloadN X0.here hx rfl (hb hby d5_0) rfl rfl kk_) ?_
    show OwnG p e below s _ _ _ (T0.setTop (mkF m 1 #[.val (.ref a1)] [(.ref a1)]))
    obtain ⟨T1, X1, e1, st1⟩ := getF X0 hx hZ hown (host := "") (Or.inl (hw _ (List.mem_of_getElem? (i := 25) rfl))) Via.refl e0 Ob.2.2.2.2 (g := (mkF m 1 #[.val (.ref a1)] [(.ref a1)])) rfl rfl (hb hby d5_1)
    refine own_by (fun t kk_ => st1 _ kk_) ?_
    show OwnG p e below s _ _ _ (T1.setTop (mkF m 4 #[.val (.ref a1)] [(.int (8 * i).toInt32)]))
    refine own_by (fun t kk_ => XS.bipush X1.here hx rfl (hb hby d5_4) kk_) ?_
    show OwnG p e below s _ _ _ (T1.setTop (mkF m 6 #[.val (.ref a1)] [(.int (56 : Int32)), (.int (8 * i).toInt32)]))
    refine own_by (fun t kk_ => XS.icmpNo X1.here hx rfl (hb hby d5_6) rfl (flt (own_le56 i (by omega))).2.2.1 kk_) ?_
    show OwnG p e below s _ _ _ (T1.setTop (mkF m 9 #[.val (.ref a1)] []))
    refine own_by (fun t kk_ => XS.aloadN X1.here hx rfl (hb hby d5_9) rfl rfl kk_) ?_
    show OwnG p e below s _ _ _ (T1.setTop (mkF m 10 #[.val (.ref a1)] [(.ref a1)]))
    obtain ⟨T2, X2, e2, st2⟩ := getF X1 hx hZ hown (host := "") (Or.inl (hw _ (List.mem_of_getElem? (i := 23) rfl))) Via.refl e1 Ob.2.2.1 (g := (mkF m 10 #[.val (.ref a1)] [(.ref a1)])) rfl rfl (hb hby d5_10)
    refine own_by (fun t kk_ => st2 _ kk_) ?_
    show OwnG p e below s _ _ _ (T2.setTop (mkF m 13 #[.val (.ref a1)] [(.int i.toInt32)]))
    refine own_by (fun t kk_ => XS.aloadN X2.here hx rfl (hb hby d5_13) rfl rfl kk_) ?_
    show OwnG p e below s _ _ _ (T2.setTop (mkF m 14 #[.val (.ref a1)] [(.ref a1), (.int i.toInt32)]))
    obtain ⟨T3, X3, e3, st3⟩ := getF X2 hx hZ hown (host := "") (Or.inl (hw _ (List.mem_of_getElem? (i := 11) rfl))) Via.refl e2 Ob.2.1 (g := (mkF m 14 #[.val (.ref a1)] [(.ref a1), (.int i.toInt32)])) rfl rfl (hb hby d5_14)
    refine own_by (fun t kk_ => st3 _ kk_) ?_
    show OwnG p e below s _ _ _ (T3.setTop (mkF m 17 #[.val (.ref a1)] [(.ref ab), (.int i.toInt32)]))
    refine own_by (fun t kk_ => own_len X3 hx hZ e3 Ab (z := i.toInt32) rfl (g := (mkF m 17 #[.val (.ref a1)] [(.ref ab), (.int i.toInt32)])) rfl rfl (hb hby d5_17) _ kk_) ?_
    show OwnG p e below s _ _ _ (T3.setTop (mkF m 18 #[.val (.ref a1)] [(.int i.toInt32), (.int i.toInt32)]))
    refine own_by (fun t kk_ => XS.icmpYes X3.here hx rfl (pc0 := 18) (pc' := 76) rfl (hb hby d5_18) rfl (flt (own_irr _)).2.1 (by decide) (by decide) kk_) ?_
    show OwnG p e below s _ _ _ (T3.setTop (mkF m 76 #[.val (.ref a1)] []))
    exact own_outV X3 hx hret hlk (hb hby d5_76) (by show _ ∧ _; rw [e3]; exact ⟨rfl, N0, Kb, ⟨Ob.1, Ob.2.1, Ob.2.2.1, Ob.2.2.2.1, Ob.2.2.2.2⟩⟩) (Nat.zero_le _) (Nat.zero_le _)
  | succ d ih =>
    show OwnG p e below s _ _ _ (T0.setTop (mkF m 0 #[.val (.ref a1)] []))
    refine own_by (fun t kk_ => XS.aloadN X0.here hx rfl (hb hby d5_0) rfl rfl kk_) ?_
    show OwnG p e below s _ _ _ (T0.setTop (mkF m 1 #[.val (.ref a1)] [(.ref a1)]))
    obtain ⟨T4, X4, e4, st4⟩ := getF X0 hx hZ hown (host := "") (Or.inl (hw _ (List.mem_of_getElem? (i := 25) rfl))) Via.refl e0 Ob.2.2.2.2 (g := (mkF m 1 #[.val (.ref a1)] [(.ref a1)])) rfl rfl (hb hby d5_1)
    refine own_by (fun t kk_ => st4 _ kk_) ?_
    show OwnG p e below s _ _ _ (T4.setTop (mkF m 4 #[.val (.ref a1)] [(.int (8 * i).toInt32)]))
    refine own_by (fun t kk_ => XS.bipush X4.here hx rfl (hb hby d5_4) kk_) ?_
    show OwnG p e below s _ _ _ (T4.setTop (mkF m 6 #[.val (.ref a1)] [(.int (56 : Int32)), (.int (8 * i).toInt32)]))
    refine own_by (fun t kk_ => XS.icmpNo X4.here hx rfl (hb hby d5_6) rfl (flt (own_le56 i (by omega))).2.2.1 kk_) ?_
    show OwnG p e below s _ _ _ (T4.setTop (mkF m 9 #[.val (.ref a1)] []))
    refine own_by (fun t kk_ => XS.aloadN X4.here hx rfl (hb hby d5_9) rfl rfl kk_) ?_
    show OwnG p e below s _ _ _ (T4.setTop (mkF m 10 #[.val (.ref a1)] [(.ref a1)]))
    obtain ⟨T5, X5, e5, st5⟩ := getF X4 hx hZ hown (host := "") (Or.inl (hw _ (List.mem_of_getElem? (i := 23) rfl))) Via.refl e4 Ob.2.2.1 (g := (mkF m 10 #[.val (.ref a1)] [(.ref a1)])) rfl rfl (hb hby d5_10)
    refine own_by (fun t kk_ => st5 _ kk_) ?_
    show OwnG p e below s _ _ _ (T5.setTop (mkF m 13 #[.val (.ref a1)] [(.int i.toInt32)]))
    refine own_by (fun t kk_ => XS.aloadN X5.here hx rfl (hb hby d5_13) rfl rfl kk_) ?_
    show OwnG p e below s _ _ _ (T5.setTop (mkF m 14 #[.val (.ref a1)] [(.ref a1), (.int i.toInt32)]))
    obtain ⟨T6, X6, e6, st6⟩ := getF X5 hx hZ hown (host := "") (Or.inl (hw _ (List.mem_of_getElem? (i := 11) rfl))) Via.refl e5 Ob.2.1 (g := (mkF m 14 #[.val (.ref a1)] [(.ref a1), (.int i.toInt32)])) rfl rfl (hb hby d5_14)
    refine own_by (fun t kk_ => st6 _ kk_) ?_
    show OwnG p e below s _ _ _ (T6.setTop (mkF m 17 #[.val (.ref a1)] [(.ref ab), (.int i.toInt32)]))
    refine own_by (fun t kk_ => own_len X6 hx hZ e6 Ab (z := n.toInt32) rfl (g := (mkF m 17 #[.val (.ref a1)] [(.ref ab), (.int i.toInt32)])) rfl rfl (hb hby d5_17) _ kk_) ?_
    show OwnG p e below s _ _ _ (T6.setTop (mkF m 18 #[.val (.ref a1)] [(.int n.toInt32), (.int i.toInt32)]))
    refine own_by (fun t kk_ => XS.icmpNo X6.here hx rfl (hb hby d5_18) rfl (tlt (own_ilt (by omega) (by omega))).2.1 kk_) ?_
    show OwnG p e below s _ _ _ (T6.setTop (mkF m 21 #[.val (.ref a1)] []))
    refine own_by (fun t kk_ => XS.aloadN X6.here hx rfl (hb hby d5_21) rfl rfl kk_) ?_
    show OwnG p e below s _ _ _ (T6.setTop (mkF m 22 #[.val (.ref a1)] [(.ref a1)]))
    refine own_by (fun t kk_ => XS.dup X6.here hx rfl (hb hby d5_22) rfl rfl kk_) ?_
    show OwnG p e below s _ _ _ (T6.setTop (mkF m 23 #[.val (.ref a1)] [(.ref a1), (.ref a1)]))
    obtain ⟨T7, X7, e7, st7⟩ := getF X6 hx hZ hown (host := "") (Or.inl (hw _ (List.mem_of_getElem? (i := 27) rfl))) Via.refl e6 Ob.2.2.2.1 (g := (mkF m 23 #[.val (.ref a1)] [(.ref a1), (.ref a1)])) rfl rfl (hb hby d5_23)
    refine own_by (fun t kk_ => st7 _ kk_) ?_
    show OwnG p e below s _ _ _ (T7.setTop (mkF m 26 #[.val (.ref a1)] [(.long (own_L b i 0)), (.ref a1)]))
    refine own_by (fun t kk_ => XS.aloadN X7.here hx rfl (hb hby d5_26) rfl rfl kk_) ?_
    show OwnG p e below s _ _ _ (T7.setTop (mkF m 27 #[.val (.ref a1)] [(.ref a1), (.long (own_L b i 0)), (.ref a1)]))
    obtain ⟨T8, X8, e8, st8⟩ := getF X7 hx hZ hown (host := "") (Or.inl (hw _ (List.mem_of_getElem? (i := 11) rfl))) Via.refl e7 Ob.2.1 (g := (mkF m 27 #[.val (.ref a1)] [(.ref a1), (.long (own_L b i 0)), (.ref a1)])) rfl rfl (hb hby d5_27)
    refine own_by (fun t kk_ => st8 _ kk_) ?_
    show OwnG p e below s _ _ _ (T8.setTop (mkF m 30 #[.val (.ref a1)] [(.ref ab), (.long (own_L b i 0)), (.ref a1)]))
    refine own_by (fun t kk_ => XS.aloadN X8.here hx rfl (hb hby d5_30) rfl rfl kk_) ?_
    show OwnG p e below s _ _ _ (T8.setTop (mkF m 31 #[.val (.ref a1)] [(.ref a1), (.ref ab), (.long (own_L b i 0)), (.ref a1)]))
    obtain ⟨T9, X9, e9, st9⟩ := getF X8 hx hZ hown (host := "") (Or.inl (hw _ (List.mem_of_getElem? (i := 23) rfl))) Via.refl e8 Ob.2.2.1 (g := (mkF m 31 #[.val (.ref a1)] [(.ref a1), (.ref ab), (.long (own_L b i 0)), (.ref a1)])) rfl rfl (hb hby d5_31)
    refine own_by (fun t kk_ => st9 _ kk_) ?_
    show OwnG p e below s _ _ _ (T9.setTop (mkF m 34 #[.val (.ref a1)] [(.int i.toInt32), (.ref ab), (.long (own_L b i 0)), (.ref a1)]))
    refine own_by (fun t kk_ => own_ldB X9 hx hZ e9 Ab (j := i.toInt32) (i := i) (own_ix (by omega) (by omega)) (v := (.int (own_b b i))) rfl (g := (mkF m 34 #[.val (.ref a1)] [(.int i.toInt32), (.ref ab), (.long (own_L b i 0)), (.ref a1)])) rfl rfl (hb hby d5_34) _ kk_) ?_
    show OwnG p e below s _ _ _ (T9.setTop (mkF m 35 #[.val (.ref a1)] [(.int (own_b b i)), (.long (own_L b i 0)), (.ref a1)]))
    refine own_by (fun t kk_ => XS.i2l X9.here hx rfl (hb hby d5_35) rfl kk_) ?_
    show OwnG p e below s _ _ _ (T9.setTop (mkF m 36 #[.val (.ref a1)] [(.long ((own_b b i).toInt64)), (.long (own_L b i 0)), (.ref a1)]))
    refine own_by (fun t kk_ => X9.ldc2Long hx hown (mvT hZ (hw _ (List.mem_of_getElem? (i := 34) rfl))) (g := (mkF m 36 #[.val (.ref a1)] [(.long ((own_b b i).toInt64)), (.long (own_L b i 0)), (.ref a1)])) rfl (hb hby d5_36) _ kk_) ?_
    show OwnG p e below s _ _ _ (T9.setTop (mkF m 39 #[.val (.ref a1)] [(.long (255 : Int64)), (.long ((own_b b i).toInt64)), (.long (own_L b i 0)), (.ref a1)]))
    refine own_by (fun t kk_ => XS.land X9.here hx rfl (hb hby d5_39) rfl kk_) ?_
    show OwnG p e below s _ _ _ (T9.setTop (mkF m 40 #[.val (.ref a1)] [(.long (((own_b b i).toInt64) &&& (255 : Int64))), (.long (own_L b i 0)), (.ref a1)]))
    refine own_by (fun t kk_ => XS.bipush X9.here hx rfl (hb hby d5_40) kk_) ?_
    show OwnG p e below s _ _ _ (T9.setTop (mkF m 42 #[.val (.ref a1)] [(.int (56 : Int32)), (.long (((own_b b i).toInt64) &&& (255 : Int64))), (.long (own_L b i 0)), (.ref a1)]))
    refine own_by (fun t kk_ => XS.aloadN X9.here hx rfl (hb hby d5_42) rfl rfl kk_) ?_
    show OwnG p e below s _ _ _ (T9.setTop (mkF m 43 #[.val (.ref a1)] [(.ref a1), (.int (56 : Int32)), (.long (((own_b b i).toInt64) &&& (255 : Int64))), (.long (own_L b i 0)), (.ref a1)]))
    obtain ⟨T10, X10, e10, st10⟩ := getF X9 hx hZ hown (host := "") (Or.inl (hw _ (List.mem_of_getElem? (i := 25) rfl))) Via.refl e9 Ob.2.2.2.2 (g := (mkF m 43 #[.val (.ref a1)] [(.ref a1), (.int (56 : Int32)), (.long (((own_b b i).toInt64) &&& (255 : Int64))), (.long (own_L b i 0)), (.ref a1)])) rfl rfl (hb hby d5_43)
    refine own_by (fun t kk_ => st10 _ kk_) ?_
    show OwnG p e below s _ _ _ (T10.setTop (mkF m 46 #[.val (.ref a1)] [(.int (8 * i).toInt32), (.int (56 : Int32)), (.long (((own_b b i).toInt64) &&& (255 : Int64))), (.long (own_L b i 0)), (.ref a1)]))
    refine own_by (fun t kk_ => XS.isub X10.here hx rfl (hb hby d5_46) rfl kk_) ?_
    show OwnG p e below s _ _ _ (T10.setTop (mkF m 47 #[.val (.ref a1)] [(.int ((56 : Int32) - (8 * i).toInt32)), (.long (((own_b b i).toInt64) &&& (255 : Int64))), (.long (own_L b i 0)), (.ref a1)]))
    refine own_by (fun t kk_ => XS.lshl X10.here hx rfl (hb hby d5_47) rfl kk_) ?_
    show OwnG p e below s _ _ _ (T10.setTop (mkF m 48 #[.val (.ref a1)] [(.long ((((own_b b i).toInt64) &&& (255 : Int64)) <<< (((56 : Int32) - (8 * i).toInt32) &&& 0x3f).toInt64)), (.long (own_L b i 0)), (.ref a1)]))
    refine own_by (fun t kk_ => XS.lor X10.here hx rfl (hb hby d5_48) rfl kk_) ?_
    show OwnG p e below s _ _ _ (T10.setTop (mkF m 49 #[.val (.ref a1)] [(.long ((own_L b i 0) ||| ((((own_b b i).toInt64) &&& (255 : Int64)) <<< (((56 : Int32) - (8 * i).toInt32) &&& 0x3f).toInt64))), (.ref a1)]))
    obtain ⟨T11, h11, X11, e11, W11, st11⟩ := putF X10 hx hZ hown (host := "") (Or.inl (hw _ (List.mem_of_getElem? (i := 27) rfl))) Via.refl e10 Ob.2.2.2.1 Ob.1 (Or.inl (hw _ (List.mem_of_getElem? (i := 28) rfl))) (hw _ (List.mem_of_getElem? (i := 3) rfl)) (ty := .long) (by decide) rfl rfl (g := (mkF m 49 #[.val (.ref a1)] [(.long ((own_L b i 0) ||| ((((own_b b i).toInt64) &&& (255 : Int64)) <<< (((56 : Int32) - (8 * i).toInt32) &&& 0x3f).toInt64))), (.ref a1)])) rfl rfl (hb hby d5_49)
    refine own_by (fun t kk_ => st11 _ kk_) ?_
    have f12 := OwnA.other W11 Ab (Ne.symm nab)
    have f13 := Exa.wr W11 Ob.1
    have f14 := Fld.other W11 Ob.2.1 (Or.inr (slot_ne (Or.inr (hw _ (List.mem_of_getElem? (i := 12) rfl))) (Or.inl (hw _ (List.mem_of_getElem? (i := 28) rfl))) (by decide) (t := (.array .byte)) (t' := .long) (by decide) (by decide)))
    have f15 := Fld.other W11 Ob.2.2.1 (Or.inr (slot_ne (Or.inl (hw _ (List.mem_of_getElem? (i := 24) rfl))) (Or.inl (hw _ (List.mem_of_getElem? (i := 28) rfl))) (by decide) (t := .int) (t' := .long) (by decide) (by decide)))
    have f17 := Fld.other W11 Ob.2.2.2.2 (Or.inr (slot_ne (Or.inl (hw _ (List.mem_of_getElem? (i := 26) rfl))) (Or.inl (hw _ (List.mem_of_getElem? (i := 28) rfl))) (by decide) (t := .int) (t' := .long) (by decide) (by decide)))
    have f18 := Keep.wr Kb W11 (Or.inl (by simp))
    have f19 := Fld.same W11 Ob.2.2.2.1
    have N11 := Fr.snoc X11 N0 g1
    have sz11 : n0 ≤ h11.size := by rw [W11.size]; exact Z0
    show OwnG p e below s _ _ _ (T11.setTop (mkF m 52 #[.val (.ref a1)] []))
    refine own_by (fun t kk_ => XS.aloadN X11.here hx rfl (hb hby d5_52) rfl rfl kk_) ?_
    show OwnG p e below s _ _ _ (T11.setTop (mkF m 53 #[.val (.ref a1)] [(.ref a1)]))
    refine own_by (fun t kk_ => XS.dup X11.here hx rfl (hb hby d5_53) rfl rfl kk_) ?_
    show OwnG p e below s _ _ _ (T11.setTop (mkF m 54 #[.val (.ref a1)] [(.ref a1), (.ref a1)]))
    obtain ⟨T20, X20, e20, st20⟩ := getF X11 hx hZ hown (host := "") (Or.inl (hw _ (List.mem_of_getElem? (i := 23) rfl))) Via.refl e11 f15 (g := (mkF m 54 #[.val (.ref a1)] [(.ref a1), (.ref a1)])) rfl rfl (hb hby d5_54)
    refine own_by (fun t kk_ => st20 _ kk_) ?_
    show OwnG p e below s _ _ _ (T20.setTop (mkF m 57 #[.val (.ref a1)] [(.int i.toInt32), (.ref a1)]))
    refine own_by (fun t kk_ => XS.iconst X20.here hx rfl (hb hby d5_57) kk_) ?_
    show OwnG p e below s _ _ _ (T20.setTop (mkF m 58 #[.val (.ref a1)] [(.int (1 : Int32)), (.int i.toInt32), (.ref a1)]))
    refine own_by (fun t kk_ => XS.iadd X20.here hx rfl (hb hby d5_58) rfl kk_) ?_
    show OwnG p e below s _ _ _ (T20.setTop (mkF m 59 #[.val (.ref a1)] [(.int (i.toInt32 + (1 : Int32))), (.ref a1)]))
    obtain ⟨T21, h21, X21, e21, W21, st21⟩ := putF X20 hx hZ hown (host := "") (Or.inl (hw _ (List.mem_of_getElem? (i := 23) rfl))) Via.refl e20 f15 f13 (Or.inl (hw _ (List.mem_of_getElem? (i := 24) rfl))) (hw _ (List.mem_of_getElem? (i := 3) rfl)) (ty := .int) (by decide) rfl rfl (g := (mkF m 59 #[.val (.ref a1)] [(.int (i.toInt32 + (1 : Int32))), (.ref a1)])) rfl rfl (hb hby d5_59)
    refine own_by (fun t kk_ => st21 _ kk_) ?_
    have f22 := OwnA.other W21 f12 (Ne.symm nab)
    have f23 := Exa.wr W21 f13
    have f24 := Fld.other W21 f14 (Or.inr (slot_ne (Or.inr (hw _ (List.mem_of_getElem? (i := 12) rfl))) (Or.inl (hw _ (List.mem_of_getElem? (i := 24) rfl))) (by decide) (t := (.array .byte)) (t' := .int) (by decide) (by decide)))
    have f26 := Fld.other W21 f19 (Or.inr (slot_ne (Or.inl (hw _ (List.mem_of_getElem? (i := 28) rfl))) (Or.inl (hw _ (List.mem_of_getElem? (i := 24) rfl))) (by decide) (t := .long) (t' := .int) (by decide) (by decide)))
    have f27 := Fld.other W21 f17 (Or.inr (slot_ne (Or.inl (hw _ (List.mem_of_getElem? (i := 26) rfl))) (Or.inl (hw _ (List.mem_of_getElem? (i := 24) rfl))) (by decide) (t := .int) (t' := .int) (by decide) (by decide)))
    have f28 := Keep.wr f18 W21 (Or.inl (by simp))
    have f29 := Fld.same W21 f15
    have N21 := Fr.snoc X21 N11 g1
    have sz21 : n0 ≤ h21.size := by rw [W21.size]; exact sz11
    show OwnG p e below s _ _ _ (T21.setTop (mkF m 62 #[.val (.ref a1)] []))
    refine own_by (fun t kk_ => XS.aloadN X21.here hx rfl (hb hby d5_62) rfl rfl kk_) ?_
    show OwnG p e below s _ _ _ (T21.setTop (mkF m 63 #[.val (.ref a1)] [(.ref a1)]))
    refine own_by (fun t kk_ => XS.dup X21.here hx rfl (hb hby d5_63) rfl rfl kk_) ?_
    show OwnG p e below s _ _ _ (T21.setTop (mkF m 64 #[.val (.ref a1)] [(.ref a1), (.ref a1)]))
    obtain ⟨T30, X30, e30, st30⟩ := getF X21 hx hZ hown (host := "") (Or.inl (hw _ (List.mem_of_getElem? (i := 25) rfl))) Via.refl e21 f27 (g := (mkF m 64 #[.val (.ref a1)] [(.ref a1), (.ref a1)])) rfl rfl (hb hby d5_64)
    refine own_by (fun t kk_ => st30 _ kk_) ?_
    show OwnG p e below s _ _ _ (T30.setTop (mkF m 67 #[.val (.ref a1)] [(.int (8 * i).toInt32), (.ref a1)]))
    refine own_by (fun t kk_ => XS.bipush X30.here hx rfl (hb hby d5_67) kk_) ?_
    show OwnG p e below s _ _ _ (T30.setTop (mkF m 69 #[.val (.ref a1)] [(.int (8 : Int32)), (.int (8 * i).toInt32), (.ref a1)]))
    refine own_by (fun t kk_ => XS.iadd X30.here hx rfl (hb hby d5_69) rfl kk_) ?_
    show OwnG p e below s _ _ _ (T30.setTop (mkF m 70 #[.val (.ref a1)] [(.int ((8 * i).toInt32 + (8 : Int32))), (.ref a1)]))
    obtain ⟨T31, h31, X31, e31, W31, st31⟩ := putF X30 hx hZ hown (host := "") (Or.inl (hw _ (List.mem_of_getElem? (i := 25) rfl))) Via.refl e30 f27 f23 (Or.inl (hw _ (List.mem_of_getElem? (i := 26) rfl))) (hw _ (List.mem_of_getElem? (i := 3) rfl)) (ty := .int) (by decide) rfl rfl (g := (mkF m 70 #[.val (.ref a1)] [(.int ((8 * i).toInt32 + (8 : Int32))), (.ref a1)])) rfl rfl (hb hby d5_70)
    refine own_by (fun t kk_ => st31 _ kk_) ?_
    have f32 := OwnA.other W31 f22 (Ne.symm nab)
    have f33 := Exa.wr W31 f23
    have f34 := Fld.other W31 f24 (Or.inr (slot_ne (Or.inr (hw _ (List.mem_of_getElem? (i := 12) rfl))) (Or.inl (hw _ (List.mem_of_getElem? (i := 26) rfl))) (by decide) (t := (.array .byte)) (t' := .int) (by decide) (by decide)))
    have f35 := Fld.other W31 f29 (Or.inr (slot_ne (Or.inl (hw _ (List.mem_of_getElem? (i := 24) rfl))) (Or.inl (hw _ (List.mem_of_getElem? (i := 26) rfl))) (by decide) (t := .int) (t' := .int) (by decide) (by decide)))
    have f36 := Fld.other W31 f26 (Or.inr (slot_ne (Or.inl (hw _ (List.mem_of_getElem? (i := 28) rfl))) (Or.inl (hw _ (List.mem_of_getElem? (i := 26) rfl))) (by decide) (t := .long) (t' := .int) (by decide) (by decide)))
    have f38 := Keep.wr f28 W31 (Or.inl (by simp))
    have f39 := Fld.same W31 f27
    have N31 := Fr.snoc X31 N21 g1
    have sz31 : n0 ≤ h31.size := by rw [W31.size]; exact sz21
    show OwnG p e below s _ _ _ (T31.setTop (mkF m 73 #[.val (.ref a1)] []))
    refine own_by (fun t kk_ => XS.goto X31.here hx rfl (pc0 := 73) (pc' := 0) rfl (hb hby d5_73) (by decide) (by decide) kk_) ?_
    show OwnG p e below s _ _ _ (T31.setTop (mkF m 0 #[.val (.ref a1)] []))
    have Ob' : own_O Z h31 a1 ab (i + 1).toInt32 (own_L b (i + 1) 0) (8 * (i + 1)).toInt32 := by
      refine ⟨f33, f34, ?_, ?_, ?_⟩
      · rw [← own_i1]; exact f35
      · rw [← own_Lstep b i (by omega)]; exact f36
      · rw [← own_i8p]; exact f39
    exact ih (i + 1) X31 e31 N31 sz31 f38 Ob' f32 (by omega) (by omega)
theorem ef_5 (m : MethodId) (x0 : Addr) : entryFrame m #[(.ref x0)] 1 = mkF m 0 #[.val (.ref x0)] [] := by first | (simp [entryFrame, mkF, argsToLocals, Value.category]; done) | rfl
def Q5 (Z : State) (a1 ab : Addr) (b : Int32) (n : Nat) (h0 : Heap) (n0 : Nat) (v : Option Value) (h : Heap) (L : List Loc) : Prop := v = none ∧ Fr n0 L ∧ Keep h0 h [a1] ∧ own_O Z h a1 ab n.toInt32 (own_L b n 0) (8 * n).toInt32
set_option maxRecDepth 65536 in
set_option maxHeartbeats 40000000 in
theorem rm5 (l : Launch) (Z : State) (a0 : Array Value) (hw : ∀ d ∈ tables_1, d.before a0 Z = true) (ws : List Jvm.Cond) (a1 ab : Addr) (b : Int32) (n : Nat) (h0 : Heap) (n0 : Nat) (Z0 : n0 ≤ h0.size) (Ob : own_O Z h0 a1 ab 0 0 0) (Ab : OwnA Z h0 ab .byte n (fun i => .int (own_b b i))) (nab : a1 ≠ ab) (g1 : n0 ≤ a1) (hn4 : n ≤ 4) :
    MetFree l (⟨"com/example/iota_ranker/iotaranker/index/BitInput", "load", "()V"⟩ : MethodName) (head1 (Jvm.Cond.code (⟨"com/example/iota_ranker/iotaranker/index/BitInput", "load", "()V"⟩ : MethodName) prog_46_method_8_code 1 none :: ws) ({ frames := 0, cells := 0, slots := 0, locals := 0 } : Room)) (fun aa_ U => aa_ = #[(.ref a1)] ∧ Z.Warmed39 U.vm ∧ U.heap = h0) (fun _ _ _ _ _ => True) (fun _ U o U' => ∃ v L, o = .returned v ∧ Q5 Z a1 ab b n h0 n0 v U'.heap L ∧ FrameEnd U o U' L ({ frames := 0, cells := 0, slots := 0, locals := 0 } : Room).cells ({ frames := 0, cells := 0, slots := 0, locals := 0 } : Room).slots) := by
  refine own_met (Q := fun v h L => Q5 Z a1 ab b n h0 n0 v h L) (plainFor_of_name pn_0) ?_
  intro p e s m below meth c s₁ hx hby hml hret hlk hown hnm hZ X0 e0
  have N0 := Fr.nil n0
  rw [ef_5 m a1]
  show OwnG p e below s _ _ _ (s₁.setTop (mkF m 0 #[.val (.ref a1)] []))
  exact own_loop b a1 ab n 0 n h0 X0 hx hby hml hret hlk hown hnm hZ hw e0 N0 Z0 (Keep.refl h0 [a1]) (by rw [own_L0]; exact Ob) Ab nab g1 (by omega) hn4 rfl
theorem d3_0 : decode prog_46_method_2_code 0 = .ok (.iload_n 1, 1) := by decide +kernel
theorem d3_1 : decode prog_46_method_2_code 1 = .ok (.ifCond .ne 5, 3) := by decide +kernel
theorem d3_4 : decode prog_46_method_2_code 4 = .ok (.lconst 0, 1) := by decide +kernel
theorem d3_5 : decode prog_46_method_2_code 5 = .ok (.lreturn, 1) := by decide +kernel
theorem d3_6 : decode prog_46_method_2_code 6 = .ok (.aload_n 0, 1) := by decide +kernel
theorem d3_7 : decode prog_46_method_2_code 7 = .ok (.getfield 15, 3) := by decide +kernel
theorem d3_10 : decode prog_46_method_2_code 10 = .ok (.iload_n 1, 1) := by decide +kernel
theorem d3_11 : decode prog_46_method_2_code 11 = .ok (.if_icmp .ge 19, 3) := by decide +kernel
theorem d3_14 : decode prog_46_method_2_code 14 = .ok (.aload_n 0, 1) := by decide +kernel
theorem d3_15 : decode prog_46_method_2_code 15 = .ok (.invokevirtual 19, 3) := by decide +kernel
theorem d3_18 : decode prog_46_method_2_code 18 = .ok (.aload_n 0, 1) := by decide +kernel
theorem d3_19 : decode prog_46_method_2_code 19 = .ok (.getfield 15, 3) := by decide +kernel
theorem d3_22 : decode prog_46_method_2_code 22 = .ok (.iload_n 1, 1) := by decide +kernel
theorem d3_23 : decode prog_46_method_2_code 23 = .ok (.if_icmp .ge 7, 3) := by decide +kernel
theorem d3_26 : decode prog_46_method_2_code 26 = .ok (.invokestatic 22, 3) := by decide +kernel
theorem d3_29 : decode prog_46_method_2_code 29 = .ok (.athrow, 1) := by decide +kernel
theorem d3_30 : decode prog_46_method_2_code 30 = .ok (.aload_n 0, 1) := by decide +kernel
theorem d3_31 : decode prog_46_method_2_code 31 = .ok (.getfield 26, 3) := by decide +kernel
theorem d3_34 : decode prog_46_method_2_code 34 = .ok (.bipush 64, 2) := by decide +kernel
theorem d3_36 : decode prog_46_method_2_code 36 = .ok (.iload_n 1, 1) := by decide +kernel
theorem d3_37 : decode prog_46_method_2_code 37 = .ok (.isub, 1) := by decide +kernel
theorem d3_38 : decode prog_46_method_2_code 38 = .ok (.lushr, 1) := by decide +kernel
theorem d3_39 : decode prog_46_method_2_code 39 = .ok (.lstore_n 2, 1) := by decide +kernel
theorem d3_40 : decode prog_46_method_2_code 40 = .ok (.aload_n 0, 1) := by decide +kernel
theorem d3_41 : decode prog_46_method_2_code 41 = .ok (.dup, 1) := by decide +kernel
theorem d3_42 : decode prog_46_method_2_code 42 = .ok (.getfield 26, 3) := by decide +kernel
theorem d3_45 : decode prog_46_method_2_code 45 = .ok (.iload_n 1, 1) := by decide +kernel
theorem d3_46 : decode prog_46_method_2_code 46 = .ok (.lshl, 1) := by decide +kernel
theorem d3_47 : decode prog_46_method_2_code 47 = .ok (.putfield 26, 3) := by decide +kernel
theorem d3_50 : decode prog_46_method_2_code 50 = .ok (.aload_n 0, 1) := by decide +kernel
theorem d3_51 : decode prog_46_method_2_code 51 = .ok (.dup, 1) := by decide +kernel
theorem d3_52 : decode prog_46_method_2_code 52 = .ok (.getfield 15, 3) := by decide +kernel
theorem d3_55 : decode prog_46_method_2_code 55 = .ok (.iload_n 1, 1) := by decide +kernel
theorem d3_56 : decode prog_46_method_2_code 56 = .ok (.isub, 1) := by decide +kernel
theorem d3_57 : decode prog_46_method_2_code 57 = .ok (.putfield 15, 3) := by decide +kernel
theorem d3_60 : decode prog_46_method_2_code 60 = .ok (.lload_n 2, 1) := by decide +kernel
theorem d3_61 : decode prog_46_method_2_code 61 = .ok (.lreturn, 1) := by decide +kernel
theorem ef_3l (m : MethodId) (x0 : Addr) (x1 : Int32) : entryFrame m #[(.ref x0), (.int x1)] 4 = mkF m 0 #[.val (.ref x0), .val (.int x1), .unset, .unset] [] := by first | (simp [entryFrame, mkF, argsToLocals, Value.category]; done) | rfl
def Q3l (Z : State) (a1 ab : Addr) (b : Int32) (n k cc : Nat) (h0 : Heap) (n0 : Nat) (v : Option Value) (h : Heap) (L : List Loc) : Prop := (∃ z, v = some (.long z)) ∧ Fr n0 L ∧ Keep h0 h [a1] ∧ own_O Z h a1 ab n.toInt32 (own_L b n (k + cc)) (8 * n - (k + cc)).toInt32
set_option maxRecDepth 65536 in
set_option maxHeartbeats 40000000 in
theorem rm3l (l : Launch) (Z : State) (a0 : Array Value) (hw : ∀ d ∈ tables_1, d.before a0 Z = true) (ws : List Jvm.Cond) (a1 ab : Addr) (b : Int32) (n k cc : Nat) (h0 : Heap) (n0 : Nat) (Z0 : n0 ≤ h0.size) (Ob : own_O Z h0 a1 ab n.toInt32 (own_L b n k) (8 * n - k).toInt32) (Ab : OwnA Z h0 ab .byte n (fun i => .int (own_b b i))) (nab : a1 ≠ ab) (g1 : n0 ≤ a1) (hn4 : n ≤ 4) (hc : 0 < cc) (hk : k + cc ≤ 8 * n) :
    MetFree l (⟨"com/example/iota_ranker/iotaranker/index/BitInput", "readBits", "(I)J"⟩ : MethodName) (head1 (Jvm.Cond.code (⟨"com/example/iota_ranker/iotaranker/index/BitInput", "readBits", "(I)J"⟩ : MethodName) prog_46_method_2_code 4 (some .long) :: ws) ({ frames := 0, cells := 0, slots := 0, locals := 0 } : Room)) (fun aa_ U => aa_ = #[(.ref a1), (.int (cc.toInt32))] ∧ Z.Warmed39 U.vm ∧ U.heap = h0) (fun _ _ _ _ _ => True) (fun _ U o U' => ∃ v L, o = .returned v ∧ Q3l Z a1 ab b n k cc h0 n0 v U'.heap L ∧ FrameEnd U o U' L ({ frames := 0, cells := 0, slots := 0, locals := 0 } : Room).cells ({ frames := 0, cells := 0, slots := 0, locals := 0 } : Room).slots) := by
  refine own_met (Q := fun v h L => Q3l Z a1 ab b n k cc h0 n0 v h L) (plainFor_of_name pn_0) ?_
  intro p e s m below meth c s₁ hx hby hml hret hlk hown hnm hZ X0 e0
  have N0 := Fr.nil n0
  rw [ef_3l m a1 (cc.toInt32)]
  show OwnG p e below s _ _ _ (s₁.setTop (mkF m 0 #[.val (.ref a1), .val (.int (cc.toInt32)), .unset, .unset] []))
  refine own_by (fun t kk_ => XS.iloadN X0.here hx rfl (hb hby d3_0) rfl  kk_) ?_
  show OwnG p e below s _ _ _ (s₁.setTop (mkF m 1 #[.val (.ref a1), .val (.int (cc.toInt32)), .unset, .unset] [(.int (cc.toInt32))]))
  refine own_by (fun t kk_ => XS.ifYes X0.here hx rfl (pc0 := 1) (pc' := 6) rfl (hb hby d3_1) rfl ((if0 _ _).trans (feq (own_nz (by omega) (by omega))).2) (by decide) (by decide) kk_) ?_
  show OwnG p e below s _ _ _ (s₁.setTop (mkF m 6 #[.val (.ref a1), .val (.int (cc.toInt32)), .unset, .unset] []))
  refine own_by (fun t kk_ => XS.aloadN X0.here hx rfl (hb hby d3_6) rfl rfl kk_) ?_
  show OwnG p e below s _ _ _ (s₁.setTop (mkF m 7 #[.val (.ref a1), .val (.int (cc.toInt32)), .unset, .unset] [(.ref a1)]))
  obtain ⟨T1, X1, e1, st1⟩ := getF X0 hx hZ hown (host := "") (Or.inl (hw _ (List.mem_of_getElem? (i := 25) rfl))) Via.refl e0 Ob.2.2.2.2 (g := (mkF m 7 #[.val (.ref a1), .val (.int (cc.toInt32)), .unset, .unset] [(.ref a1)])) rfl rfl (hb hby d3_7)
  refine own_by (fun t kk_ => st1 _ kk_) ?_
  show OwnG p e below s _ _ _ (T1.setTop (mkF m 10 #[.val (.ref a1), .val (.int (cc.toInt32)), .unset, .unset] [(.int (8 * n - k).toInt32)]))
  refine own_by (fun t kk_ => XS.iloadN X1.here hx rfl (hb hby d3_10) rfl  kk_) ?_
  show OwnG p e below s _ _ _ (T1.setTop (mkF m 11 #[.val (.ref a1), .val (.int (cc.toInt32)), .unset, .unset] [(.int (cc.toInt32)), (.int (8 * n - k).toInt32)]))
  refine own_by (fun t kk_ => XS.icmpYes X1.here hx rfl (pc0 := 11) (pc' := 30) rfl (hb hby d3_11) rfl (flt (own_nlt (by omega) (by omega))).2.1 (by decide) (by decide) kk_) ?_
  show OwnG p e below s _ _ _ (T1.setTop (mkF m 30 #[.val (.ref a1), .val (.int (cc.toInt32)), .unset, .unset] []))
  refine own_by (fun t kk_ => XS.aloadN X1.here hx rfl (hb hby d3_30) rfl rfl kk_) ?_
  show OwnG p e below s _ _ _ (T1.setTop (mkF m 31 #[.val (.ref a1), .val (.int (cc.toInt32)), .unset, .unset] [(.ref a1)]))
  obtain ⟨T2, X2, e2, st2⟩ := getF X1 hx hZ hown (host := "") (Or.inl (hw _ (List.mem_of_getElem? (i := 27) rfl))) Via.refl e1 Ob.2.2.2.1 (g := (mkF m 31 #[.val (.ref a1), .val (.int (cc.toInt32)), .unset, .unset] [(.ref a1)])) rfl rfl (hb hby d3_31)
  refine own_by (fun t kk_ => st2 _ kk_) ?_
  show OwnG p e below s _ _ _ (T2.setTop (mkF m 34 #[.val (.ref a1), .val (.int (cc.toInt32)), .unset, .unset] [(.long (own_L b n k))]))
  refine own_by (fun t kk_ => XS.bipush X2.here hx rfl (hb hby d3_34) kk_) ?_
  show OwnG p e below s _ _ _ (T2.setTop (mkF m 36 #[.val (.ref a1), .val (.int (cc.toInt32)), .unset, .unset] [(.int (64 : Int32)), (.long (own_L b n k))]))
  refine own_by (fun t kk_ => XS.iloadN X2.here hx rfl (hb hby d3_36) rfl  kk_) ?_
  show OwnG p e below s _ _ _ (T2.setTop (mkF m 37 #[.val (.ref a1), .val (.int (cc.toInt32)), .unset, .unset] [(.int (cc.toInt32)), (.int (64 : Int32)), (.long (own_L b n k))]))
  refine own_by (fun t kk_ => XS.isub X2.here hx rfl (hb hby d3_37) rfl kk_) ?_
  show OwnG p e below s _ _ _ (T2.setTop (mkF m 38 #[.val (.ref a1), .val (.int (cc.toInt32)), .unset, .unset] [(.int ((64 : Int32) - (cc.toInt32))), (.long (own_L b n k))]))
  refine own_by (fun t kk_ => XS.lushr X2.here hx rfl (hb hby d3_38) rfl kk_) ?_
  show OwnG p e below s _ _ _ (T2.setTop (mkF m 39 #[.val (.ref a1), .val (.int (cc.toInt32)), .unset, .unset] [(.long (((own_L b n k).toUInt64 >>> (((64 : Int32) - (cc.toInt32)) &&& 0x3f).toInt64.toUInt64).toInt64))]))
  refine own_by (fun t kk_ => XS.lstoreN X2.here hx rfl (hb hby d3_39) rfl (l' := #[.val (.ref a1), .val (.int (cc.toInt32)), .val (.long (((own_L b n k).toUInt64 >>> (((64 : Int32) - (cc.toInt32)) &&& 0x3f).toInt64.toUInt64).toInt64)), .second]) rfl kk_) ?_
  show OwnG p e below s _ _ _ (T2.setTop (mkF m 40 #[.val (.ref a1), .val (.int (cc.toInt32)), .val (.long (((own_L b n k).toUInt64 >>> (((64 : Int32) - (cc.toInt32)) &&& 0x3f).toInt64.toUInt64).toInt64)), .second] []))
  refine own_by (fun t kk_ => XS.aloadN X2.here hx rfl (hb hby d3_40) rfl rfl kk_) ?_
  show OwnG p e below s _ _ _ (T2.setTop (mkF m 41 #[.val (.ref a1), .val (.int (cc.toInt32)), .val (.long (((own_L b n k).toUInt64 >>> (((64 : Int32) - (cc.toInt32)) &&& 0x3f).toInt64.toUInt64).toInt64)), .second] [(.ref a1)]))
  refine own_by (fun t kk_ => XS.dup X2.here hx rfl (hb hby d3_41) rfl rfl kk_) ?_
  show OwnG p e below s _ _ _ (T2.setTop (mkF m 42 #[.val (.ref a1), .val (.int (cc.toInt32)), .val (.long (((own_L b n k).toUInt64 >>> (((64 : Int32) - (cc.toInt32)) &&& 0x3f).toInt64.toUInt64).toInt64)), .second] [(.ref a1), (.ref a1)]))
  obtain ⟨T3, X3, e3, st3⟩ := getF X2 hx hZ hown (host := "") (Or.inl (hw _ (List.mem_of_getElem? (i := 27) rfl))) Via.refl e2 Ob.2.2.2.1 (g := (mkF m 42 #[.val (.ref a1), .val (.int (cc.toInt32)), .val (.long (((own_L b n k).toUInt64 >>> (((64 : Int32) - (cc.toInt32)) &&& 0x3f).toInt64.toUInt64).toInt64)), .second] [(.ref a1), (.ref a1)])) rfl rfl (hb hby d3_42)
  refine own_by (fun t kk_ => st3 _ kk_) ?_
  show OwnG p e below s _ _ _ (T3.setTop (mkF m 45 #[.val (.ref a1), .val (.int (cc.toInt32)), .val (.long (((own_L b n k).toUInt64 >>> (((64 : Int32) - (cc.toInt32)) &&& 0x3f).toInt64.toUInt64).toInt64)), .second] [(.long (own_L b n k)), (.ref a1)]))
  refine own_by (fun t kk_ => XS.iloadN X3.here hx rfl (hb hby d3_45) rfl  kk_) ?_
  show OwnG p e below s _ _ _ (T3.setTop (mkF m 46 #[.val (.ref a1), .val (.int (cc.toInt32)), .val (.long (((own_L b n k).toUInt64 >>> (((64 : Int32) - (cc.toInt32)) &&& 0x3f).toInt64.toUInt64).toInt64)), .second] [(.int (cc.toInt32)), (.long (own_L b n k)), (.ref a1)]))
  refine own_by (fun t kk_ => XS.lshl X3.here hx rfl (hb hby d3_46) rfl kk_) ?_
  show OwnG p e below s _ _ _ (T3.setTop (mkF m 47 #[.val (.ref a1), .val (.int (cc.toInt32)), .val (.long (((own_L b n k).toUInt64 >>> (((64 : Int32) - (cc.toInt32)) &&& 0x3f).toInt64.toUInt64).toInt64)), .second] [(.long ((own_L b n k) <<< ((cc.toInt32) &&& 0x3f).toInt64)), (.ref a1)]))
  obtain ⟨T4, h4, X4, e4, W4, st4⟩ := putF X3 hx hZ hown (host := "") (Or.inl (hw _ (List.mem_of_getElem? (i := 27) rfl))) Via.refl e3 Ob.2.2.2.1 Ob.1 (Or.inl (hw _ (List.mem_of_getElem? (i := 28) rfl))) (hw _ (List.mem_of_getElem? (i := 3) rfl)) (ty := .long) (by decide) rfl rfl (g := (mkF m 47 #[.val (.ref a1), .val (.int (cc.toInt32)), .val (.long (((own_L b n k).toUInt64 >>> (((64 : Int32) - (cc.toInt32)) &&& 0x3f).toInt64.toUInt64).toInt64)), .second] [(.long ((own_L b n k) <<< ((cc.toInt32) &&& 0x3f).toInt64)), (.ref a1)])) rfl rfl (hb hby d3_47)
  refine own_by (fun t kk_ => st4 _ kk_) ?_
  have f5 := OwnA.other W4 Ab (Ne.symm nab)
  have f6 := Exa.wr W4 Ob.1
  have f7 := Fld.other W4 Ob.2.1 (Or.inr (slot_ne (Or.inr (hw _ (List.mem_of_getElem? (i := 12) rfl))) (Or.inl (hw _ (List.mem_of_getElem? (i := 28) rfl))) (by decide) (t := (.array .byte)) (t' := .long) (by decide) (by decide)))
  have f8 := Fld.other W4 Ob.2.2.1 (Or.inr (slot_ne (Or.inl (hw _ (List.mem_of_getElem? (i := 24) rfl))) (Or.inl (hw _ (List.mem_of_getElem? (i := 28) rfl))) (by decide) (t := .int) (t' := .long) (by decide) (by decide)))
  have f10 := Fld.other W4 Ob.2.2.2.2 (Or.inr (slot_ne (Or.inl (hw _ (List.mem_of_getElem? (i := 26) rfl))) (Or.inl (hw _ (List.mem_of_getElem? (i := 28) rfl))) (by decide) (t := .int) (t' := .long) (by decide) (by decide)))
  have f11 := Keep.wr (Keep.refl h0 [a1]) W4 (Or.inl (by simp))
  have f12 := Fld.same W4 Ob.2.2.2.1
  have N4 := Fr.snoc X4 N0 g1
  have sz4 : n0 ≤ h4.size := by rw [W4.size]; exact Z0
  show OwnG p e below s _ _ _ (T4.setTop (mkF m 50 #[.val (.ref a1), .val (.int (cc.toInt32)), .val (.long (((own_L b n k).toUInt64 >>> (((64 : Int32) - (cc.toInt32)) &&& 0x3f).toInt64.toUInt64).toInt64)), .second] []))
  refine own_by (fun t kk_ => XS.aloadN X4.here hx rfl (hb hby d3_50) rfl rfl kk_) ?_
  show OwnG p e below s _ _ _ (T4.setTop (mkF m 51 #[.val (.ref a1), .val (.int (cc.toInt32)), .val (.long (((own_L b n k).toUInt64 >>> (((64 : Int32) - (cc.toInt32)) &&& 0x3f).toInt64.toUInt64).toInt64)), .second] [(.ref a1)]))
  refine own_by (fun t kk_ => XS.dup X4.here hx rfl (hb hby d3_51) rfl rfl kk_) ?_
  show OwnG p e below s _ _ _ (T4.setTop (mkF m 52 #[.val (.ref a1), .val (.int (cc.toInt32)), .val (.long (((own_L b n k).toUInt64 >>> (((64 : Int32) - (cc.toInt32)) &&& 0x3f).toInt64.toUInt64).toInt64)), .second] [(.ref a1), (.ref a1)]))
  obtain ⟨T13, X13, e13, st13⟩ := getF X4 hx hZ hown (host := "") (Or.inl (hw _ (List.mem_of_getElem? (i := 25) rfl))) Via.refl e4 f10 (g := (mkF m 52 #[.val (.ref a1), .val (.int (cc.toInt32)), .val (.long (((own_L b n k).toUInt64 >>> (((64 : Int32) - (cc.toInt32)) &&& 0x3f).toInt64.toUInt64).toInt64)), .second] [(.ref a1), (.ref a1)])) rfl rfl (hb hby d3_52)
  refine own_by (fun t kk_ => st13 _ kk_) ?_
  show OwnG p e below s _ _ _ (T13.setTop (mkF m 55 #[.val (.ref a1), .val (.int (cc.toInt32)), .val (.long (((own_L b n k).toUInt64 >>> (((64 : Int32) - (cc.toInt32)) &&& 0x3f).toInt64.toUInt64).toInt64)), .second] [(.int (8 * n - k).toInt32), (.ref a1)]))
  refine own_by (fun t kk_ => XS.iloadN X13.here hx rfl (hb hby d3_55) rfl  kk_) ?_
  show OwnG p e below s _ _ _ (T13.setTop (mkF m 56 #[.val (.ref a1), .val (.int (cc.toInt32)), .val (.long (((own_L b n k).toUInt64 >>> (((64 : Int32) - (cc.toInt32)) &&& 0x3f).toInt64.toUInt64).toInt64)), .second] [(.int (cc.toInt32)), (.int (8 * n - k).toInt32), (.ref a1)]))
  refine own_by (fun t kk_ => XS.isub X13.here hx rfl (hb hby d3_56) rfl kk_) ?_
  show OwnG p e below s _ _ _ (T13.setTop (mkF m 57 #[.val (.ref a1), .val (.int (cc.toInt32)), .val (.long (((own_L b n k).toUInt64 >>> (((64 : Int32) - (cc.toInt32)) &&& 0x3f).toInt64.toUInt64).toInt64)), .second] [(.int ((8 * n - k).toInt32 - (cc.toInt32))), (.ref a1)]))
  obtain ⟨T14, h14, X14, e14, W14, st14⟩ := putF X13 hx hZ hown (host := "") (Or.inl (hw _ (List.mem_of_getElem? (i := 25) rfl))) Via.refl e13 f10 f6 (Or.inl (hw _ (List.mem_of_getElem? (i := 26) rfl))) (hw _ (List.mem_of_getElem? (i := 3) rfl)) (ty := .int) (by decide) rfl rfl (g := (mkF m 57 #[.val (.ref a1), .val (.int (cc.toInt32)), .val (.long (((own_L b n k).toUInt64 >>> (((64 : Int32) - (cc.toInt32)) &&& 0x3f).toInt64.toUInt64).toInt64)), .second] [(.int ((8 * n - k).toInt32 - (cc.toInt32))), (.ref a1)])) rfl rfl (hb hby d3_57)
  refine own_by (fun t kk_ => st14 _ kk_) ?_
  have f15 := OwnA.other W14 f5 (Ne.symm nab)
  have f16 := Exa.wr W14 f6
  have f17 := Fld.other W14 f7 (Or.inr (slot_ne (Or.inr (hw _ (List.mem_of_getElem? (i := 12) rfl))) (Or.inl (hw _ (List.mem_of_getElem? (i := 26) rfl))) (by decide) (t := (.array .byte)) (t' := .int) (by decide) (by decide)))
  have f18 := Fld.other W14 f8 (Or.inr (slot_ne (Or.inl (hw _ (List.mem_of_getElem? (i := 24) rfl))) (Or.inl (hw _ (List.mem_of_getElem? (i := 26) rfl))) (by decide) (t := .int) (t' := .int) (by decide) (by decide)))
  have f19 := Fld.other W14 f12 (Or.inr (slot_ne (Or.inl (hw _ (List.mem_of_getElem? (i := 28) rfl))) (Or.inl (hw _ (List.mem_of_getElem? (i := 26) rfl))) (by decide) (t := .long) (t' := .int) (by decide) (by decide)))
  have f21 := Keep.wr f11 W14 (Or.inl (by simp))
  have f22 := Fld.same W14 f10
  have N14 := Fr.snoc X14 N4 g1
  have sz14 : n0 ≤ h14.size := by rw [W14.size]; exact sz4
  show OwnG p e below s _ _ _ (T14.setTop (mkF m 60 #[.val (.ref a1), .val (.int (cc.toInt32)), .val (.long (((own_L b n k).toUInt64 >>> (((64 : Int32) - (cc.toInt32)) &&& 0x3f).toInt64.toUInt64).toInt64)), .second] []))
  refine own_by (fun t kk_ => XS.lloadN X14.here hx rfl (hb hby d3_60) rfl  kk_) ?_
  show OwnG p e below s _ _ _ (T14.setTop (mkF m 61 #[.val (.ref a1), .val (.int (cc.toInt32)), .val (.long (((own_L b n k).toUInt64 >>> (((64 : Int32) - (cc.toInt32)) &&& 0x3f).toInt64.toUInt64).toInt64)), .second] [(.long (((own_L b n k).toUInt64 >>> (((64 : Int32) - (cc.toInt32)) &&& 0x3f).toInt64.toUInt64).toInt64))]))
  exact own_outL X14 hx hret hlk (hb hby d3_61) (by show _ ∧ _; rw [e14]; exact ⟨⟨_, rfl⟩, N14, f21, ⟨f16, f17, f18, by rw [← own_Lshl b n k cc (by omega) (by omega)]; exact f19, by rw [← own_sub8 (x := 8 * n - k) (c := cc) (y := 8 * n - (k + cc)) (by omega) (by omega) (by omega)]; exact f22⟩⟩) (by decide) (by decide)
theorem ef_3u (m : MethodId) (x0 : Addr) (x1 : Int32) : entryFrame m #[(.ref x0), (.int x1)] 4 = mkF m 0 #[.val (.ref x0), .val (.int x1), .unset, .unset] [] := by first | (simp [entryFrame, mkF, argsToLocals, Value.category]; done) | rfl
def Q3u (Z : State) (a1 ab : Addr) (b : Int32) (n cc : Nat) (h0 : Heap) (n0 : Nat) (v : Option Value) (h : Heap) (L : List Loc) : Prop := (∃ z, v = some (.long z)) ∧ Fr n0 L ∧ Keep h0 h [a1] ∧ own_O Z h a1 ab n.toInt32 (own_L b n cc) (8 * n - cc).toInt32
set_option maxRecDepth 65536 in
set_option maxHeartbeats 40000000 in
theorem rm3u (l : Launch) (Z : State) (a0 : Array Value) (hw : ∀ d ∈ tables_1, d.before a0 Z = true) (ws : List Jvm.Cond) (a1 ab : Addr) (b : Int32) (n cc : Nat) (h0 : Heap) (n0 : Nat) (Z0 : n0 ≤ h0.size) (Ob : own_O Z h0 a1 ab 0 0 0) (Ab : OwnA Z h0 ab .byte n (fun i => .int (own_b b i))) (nab : a1 ≠ ab) (g1 : n0 ≤ a1) (hn4 : n ≤ 4) (hc : 0 < cc) (hk : cc ≤ 8 * n) :
    MetFree l (⟨"com/example/iota_ranker/iotaranker/index/BitInput", "readBits", "(I)J"⟩ : MethodName) (head1 (Jvm.Cond.code (⟨"com/example/iota_ranker/iotaranker/index/BitInput", "readBits", "(I)J"⟩ : MethodName) prog_46_method_2_code 4 (some .long) :: ws) ({ frames := 1, cells := 0, slots := 0, locals := 12 } : Room)) (fun aa_ U => aa_ = #[(.ref a1), (.int (cc.toInt32))] ∧ Z.Warmed39 U.vm ∧ U.heap = h0) (fun _ _ _ _ _ => True) (fun _ U o U' => ∃ v L, o = .returned v ∧ Q3u Z a1 ab b n cc h0 n0 v U'.heap L ∧ FrameEnd U o U' L ({ frames := 1, cells := 0, slots := 0, locals := 12 } : Room).cells ({ frames := 1, cells := 0, slots := 0, locals := 12 } : Room).slots) := by
  refine own_met (Q := fun v h L => Q3u Z a1 ab b n cc h0 n0 v h L) (plainFor_of_name pn_0) ?_
  intro p e s m below meth c s₁ hx hby hml hret hlk hown hnm hZ X0 e0
  have N0 := Fr.nil n0
  rw [ef_3u m a1 (cc.toInt32)]
  show OwnG p e below s _ _ _ (s₁.setTop (mkF m 0 #[.val (.ref a1), .val (.int (cc.toInt32)), .unset, .unset] []))
  refine own_by (fun t kk_ => XS.iloadN X0.here hx rfl (hb hby d3_0) rfl  kk_) ?_
  show OwnG p e below s _ _ _ (s₁.setTop (mkF m 1 #[.val (.ref a1), .val (.int (cc.toInt32)), .unset, .unset] [(.int (cc.toInt32))]))
  refine own_by (fun t kk_ => XS.ifYes X0.here hx rfl (pc0 := 1) (pc' := 6) rfl (hb hby d3_1) rfl ((if0 _ _).trans (feq (own_nz (by omega) (by omega))).2) (by decide) (by decide) kk_) ?_
  show OwnG p e below s _ _ _ (s₁.setTop (mkF m 6 #[.val (.ref a1), .val (.int (cc.toInt32)), .unset, .unset] []))
  refine own_by (fun t kk_ => XS.aloadN X0.here hx rfl (hb hby d3_6) rfl rfl kk_) ?_
  show OwnG p e below s _ _ _ (s₁.setTop (mkF m 7 #[.val (.ref a1), .val (.int (cc.toInt32)), .unset, .unset] [(.ref a1)]))
  obtain ⟨T1, X1, e1, st1⟩ := getF X0 hx hZ hown (host := "") (Or.inl (hw _ (List.mem_of_getElem? (i := 25) rfl))) Via.refl e0 Ob.2.2.2.2 (g := (mkF m 7 #[.val (.ref a1), .val (.int (cc.toInt32)), .unset, .unset] [(.ref a1)])) rfl rfl (hb hby d3_7)
  refine own_by (fun t kk_ => st1 _ kk_) ?_
  show OwnG p e below s _ _ _ (T1.setTop (mkF m 10 #[.val (.ref a1), .val (.int (cc.toInt32)), .unset, .unset] [(.int 0)]))
  refine own_by (fun t kk_ => XS.iloadN X1.here hx rfl (hb hby d3_10) rfl  kk_) ?_
  show OwnG p e below s _ _ _ (T1.setTop (mkF m 11 #[.val (.ref a1), .val (.int (cc.toInt32)), .unset, .unset] [(.int (cc.toInt32)), (.int 0)]))
  refine own_by (fun t kk_ => XS.icmpNo X1.here hx rfl (hb hby d3_11) rfl (tlt (own_0lt (by omega) (by omega))).2.1 kk_) ?_
  show OwnG p e below s _ _ _ (T1.setTop (mkF m 14 #[.val (.ref a1), .val (.int (cc.toInt32)), .unset, .unset] []))
  refine own_by (fun t kk_ => XS.aloadN X1.here hx rfl (hb hby d3_14) rfl rfl kk_) ?_
  show OwnG p e below s _ _ _ (T1.setTop (mkF m 15 #[.val (.ref a1), .val (.int (cc.toInt32)), .unset, .unset] [(.ref a1)]))
  obtain ⟨cq2, q2, q2'⟩ := Exa.cell Ob.1
  obtain ⟨_, _, ⟨T2, L2, k2, n2⟩, -, X2, ⟨Lc2, hQ2, l2, y2, z2⟩, st2⟩ := X1.privateBack hx (y := (⟨"com/example/iota_ranker/iotaranker/index/BitInput", "load", "()V"⟩ : MethodName)) hown (mvT hZ (hw _ (List.mem_of_getElem? (i := 30) rfl))) (mvT hZ (hw _ (List.mem_of_getElem? (i := 31) rfl))) (own_selp hZ (y := (⟨"com/example/iota_ranker/iotaranker/index/BitInput", "load", "()V"⟩ : MethodName)) (hw _ (List.mem_of_getElem? (i := 3) rfl)) (hw _ (List.mem_of_getElem? (i := 32) rfl)) (hw _ (List.mem_of_getElem? (i := 31) rfl)) (by decide)) (Cond.privateMethod_at (mvP hZ (hw _ (List.mem_of_getElem? (i := 32) rfl)) (args := #[]))) (mvT hZ (hw _ (List.mem_of_getElem? (i := 33) rfl))) (by decide) (backOf (W := 0) (rm5 l Z a0 hw [] a1 ab b n h0 n0 Z0 Ob Ab nab g1 hn4) hZ (hw _ (List.mem_of_getElem? (i := 33) rfl)) (hw _ (List.mem_of_getElem? (i := 4) rfl)) (by decide) (by decide)) (g := (mkF m 15 #[.val (.ref a1), .val (.int (cc.toInt32)), .unset, .unset] [(.ref a1)])) rfl (by rw [hml]; rfl) (Steps.refl _) (a := a1) (by rw [e1]; exact q2) q2' (argsL := []) (rest := []) (lenOf pd_0 rfl) rfl (by show 2 * 0 + _ ≤ _; exact Nat.le_of_eq rfl) (hb hby d3_15) (fun _ _ => ⟨rfl, e1, (by decide : 0 + 0 ≤ _), (by decide : 0 + 0 ≤ _)⟩)
  dsimp only [Pt.U, Pt.locs, Pt.cells, Pt.slots] at X2 l2 y2 z2 st2 hQ2
  subst l2 y2 z2
  refine own_by (fun t kk_ => st2.trans kk_) ?_
  obtain ⟨rfl, N2q, K2, O2⟩ := hQ2
  have N2 := Fr.app N0 N2q
  have sz2 : n0 ≤ T2.heap.size := Nat.le_trans Z0 K2.1
  have f3 := OwnA.keep Ab K2 (ninS (Ne.symm nab) nin0)
  have f4 := Exa.keep Ob.1 K2
  have f5 := Keep.trans (Keep.refl h0 [a1]) K2 (allS (Or.inl (by simp)) all0)
  show OwnG p e below s _ _ _ (T2.setTop (mkF m 18 #[.val (.ref a1), .val (.int (cc.toInt32)), .unset, .unset] []))
  refine own_by (fun t kk_ => XS.aloadN X2.here hx rfl (hb hby d3_18) rfl rfl kk_) ?_
  show OwnG p e below s _ _ _ (T2.setTop (mkF m 19 #[.val (.ref a1), .val (.int (cc.toInt32)), .unset, .unset] [(.ref a1)]))
  obtain ⟨T6, X6, e6, st6⟩ := getF X2 hx hZ hown (host := "") (Or.inl (hw _ (List.mem_of_getElem? (i := 25) rfl))) Via.refl (rfl : T2.heap = T2.heap) O2.2.2.2.2 (g := (mkF m 19 #[.val (.ref a1), .val (.int (cc.toInt32)), .unset, .unset] [(.ref a1)])) rfl rfl (hb hby d3_19)
  refine own_by (fun t kk_ => st6 _ kk_) ?_
  show OwnG p e below s _ _ _ (T6.setTop (mkF m 22 #[.val (.ref a1), .val (.int (cc.toInt32)), .unset, .unset] [(.int (8 * n).toInt32)]))
  refine own_by (fun t kk_ => XS.iloadN X6.here hx rfl (hb hby d3_22) rfl  kk_) ?_
  show OwnG p e below s _ _ _ (T6.setTop (mkF m 23 #[.val (.ref a1), .val (.int (cc.toInt32)), .unset, .unset] [(.int (cc.toInt32)), (.int (8 * n).toInt32)]))
  refine own_by (fun t kk_ => XS.icmpYes X6.here hx rfl (pc0 := 23) (pc' := 30) rfl (hb hby d3_23) rfl (flt (own_nlt (by omega) (by omega))).2.1 (by decide) (by decide) kk_) ?_
  show OwnG p e below s _ _ _ (T6.setTop (mkF m 30 #[.val (.ref a1), .val (.int (cc.toInt32)), .unset, .unset] []))
  refine own_by (fun t kk_ => XS.aloadN X6.here hx rfl (hb hby d3_30) rfl rfl kk_) ?_
  show OwnG p e below s _ _ _ (T6.setTop (mkF m 31 #[.val (.ref a1), .val (.int (cc.toInt32)), .unset, .unset] [(.ref a1)]))
  obtain ⟨T7, X7, e7, st7⟩ := getF X6 hx hZ hown (host := "") (Or.inl (hw _ (List.mem_of_getElem? (i := 27) rfl))) Via.refl e6 O2.2.2.2.1 (g := (mkF m 31 #[.val (.ref a1), .val (.int (cc.toInt32)), .unset, .unset] [(.ref a1)])) rfl rfl (hb hby d3_31)
  refine own_by (fun t kk_ => st7 _ kk_) ?_
  show OwnG p e below s _ _ _ (T7.setTop (mkF m 34 #[.val (.ref a1), .val (.int (cc.toInt32)), .unset, .unset] [(.long (own_L b n 0))]))
  refine own_by (fun t kk_ => XS.bipush X7.here hx rfl (hb hby d3_34) kk_) ?_
  show OwnG p e below s _ _ _ (T7.setTop (mkF m 36 #[.val (.ref a1), .val (.int (cc.toInt32)), .unset, .unset] [(.int (64 : Int32)), (.long (own_L b n 0))]))
  refine own_by (fun t kk_ => XS.iloadN X7.here hx rfl (hb hby d3_36) rfl  kk_) ?_
  show OwnG p e below s _ _ _ (T7.setTop (mkF m 37 #[.val (.ref a1), .val (.int (cc.toInt32)), .unset, .unset] [(.int (cc.toInt32)), (.int (64 : Int32)), (.long (own_L b n 0))]))
  refine own_by (fun t kk_ => XS.isub X7.here hx rfl (hb hby d3_37) rfl kk_) ?_
  show OwnG p e below s _ _ _ (T7.setTop (mkF m 38 #[.val (.ref a1), .val (.int (cc.toInt32)), .unset, .unset] [(.int ((64 : Int32) - (cc.toInt32))), (.long (own_L b n 0))]))
  refine own_by (fun t kk_ => XS.lushr X7.here hx rfl (hb hby d3_38) rfl kk_) ?_
  show OwnG p e below s _ _ _ (T7.setTop (mkF m 39 #[.val (.ref a1), .val (.int (cc.toInt32)), .unset, .unset] [(.long (((own_L b n 0).toUInt64 >>> (((64 : Int32) - (cc.toInt32)) &&& 0x3f).toInt64.toUInt64).toInt64))]))
  refine own_by (fun t kk_ => XS.lstoreN X7.here hx rfl (hb hby d3_39) rfl (l' := #[.val (.ref a1), .val (.int (cc.toInt32)), .val (.long (((own_L b n 0).toUInt64 >>> (((64 : Int32) - (cc.toInt32)) &&& 0x3f).toInt64.toUInt64).toInt64)), .second]) rfl kk_) ?_
  show OwnG p e below s _ _ _ (T7.setTop (mkF m 40 #[.val (.ref a1), .val (.int (cc.toInt32)), .val (.long (((own_L b n 0).toUInt64 >>> (((64 : Int32) - (cc.toInt32)) &&& 0x3f).toInt64.toUInt64).toInt64)), .second] []))
  refine own_by (fun t kk_ => XS.aloadN X7.here hx rfl (hb hby d3_40) rfl rfl kk_) ?_
  show OwnG p e below s _ _ _ (T7.setTop (mkF m 41 #[.val (.ref a1), .val (.int (cc.toInt32)), .val (.long (((own_L b n 0).toUInt64 >>> (((64 : Int32) - (cc.toInt32)) &&& 0x3f).toInt64.toUInt64).toInt64)), .second] [(.ref a1)]))
  refine own_by (fun t kk_ => XS.dup X7.here hx rfl (hb hby d3_41) rfl rfl kk_) ?_
  show OwnG p e below s _ _ _ (T7.setTop (mkF m 42 #[.val (.ref a1), .val (.int (cc.toInt32)), .val (.long (((own_L b n 0).toUInt64 >>> (((64 : Int32) - (cc.toInt32)) &&& 0x3f).toInt64.toUInt64).toInt64)), .second] [(.ref a1), (.ref a1)]))
  obtain ⟨T8, X8, e8, st8⟩ := getF X7 hx hZ hown (host := "") (Or.inl (hw _ (List.mem_of_getElem? (i := 27) rfl))) Via.refl e7 O2.2.2.2.1 (g := (mkF m 42 #[.val (.ref a1), .val (.int (cc.toInt32)), .val (.long (((own_L b n 0).toUInt64 >>> (((64 : Int32) - (cc.toInt32)) &&& 0x3f).toInt64.toUInt64).toInt64)), .second] [(.ref a1), (.ref a1)])) rfl rfl (hb hby d3_42)
  refine own_by (fun t kk_ => st8 _ kk_) ?_
  show OwnG p e below s _ _ _ (T8.setTop (mkF m 45 #[.val (.ref a1), .val (.int (cc.toInt32)), .val (.long (((own_L b n 0).toUInt64 >>> (((64 : Int32) - (cc.toInt32)) &&& 0x3f).toInt64.toUInt64).toInt64)), .second] [(.long (own_L b n 0)), (.ref a1)]))
  refine own_by (fun t kk_ => XS.iloadN X8.here hx rfl (hb hby d3_45) rfl  kk_) ?_
  show OwnG p e below s _ _ _ (T8.setTop (mkF m 46 #[.val (.ref a1), .val (.int (cc.toInt32)), .val (.long (((own_L b n 0).toUInt64 >>> (((64 : Int32) - (cc.toInt32)) &&& 0x3f).toInt64.toUInt64).toInt64)), .second] [(.int (cc.toInt32)), (.long (own_L b n 0)), (.ref a1)]))
  refine own_by (fun t kk_ => XS.lshl X8.here hx rfl (hb hby d3_46) rfl kk_) ?_
  show OwnG p e below s _ _ _ (T8.setTop (mkF m 47 #[.val (.ref a1), .val (.int (cc.toInt32)), .val (.long (((own_L b n 0).toUInt64 >>> (((64 : Int32) - (cc.toInt32)) &&& 0x3f).toInt64.toUInt64).toInt64)), .second] [(.long ((own_L b n 0) <<< ((cc.toInt32) &&& 0x3f).toInt64)), (.ref a1)]))
  obtain ⟨T9, h9, X9, e9, W9, st9⟩ := putF X8 hx hZ hown (host := "") (Or.inl (hw _ (List.mem_of_getElem? (i := 27) rfl))) Via.refl e8 O2.2.2.2.1 O2.1 (Or.inl (hw _ (List.mem_of_getElem? (i := 28) rfl))) (hw _ (List.mem_of_getElem? (i := 3) rfl)) (ty := .long) (by decide) rfl rfl (g := (mkF m 47 #[.val (.ref a1), .val (.int (cc.toInt32)), .val (.long (((own_L b n 0).toUInt64 >>> (((64 : Int32) - (cc.toInt32)) &&& 0x3f).toInt64.toUInt64).toInt64)), .second] [(.long ((own_L b n 0) <<< ((cc.toInt32) &&& 0x3f).toInt64)), (.ref a1)])) rfl rfl (hb hby d3_47)
  refine own_by (fun t kk_ => st9 _ kk_) ?_
  have f10 := OwnA.other W9 f3 (Ne.symm nab)
  have f11 := Exa.wr W9 O2.1
  have f12 := Keep.wr f5 W9 (Or.inl (by simp))
  have f13 := Fld.other W9 O2.2.1 (Or.inr (slot_ne (Or.inr (hw _ (List.mem_of_getElem? (i := 12) rfl))) (Or.inl (hw _ (List.mem_of_getElem? (i := 28) rfl))) (by decide) (t := (.array .byte)) (t' := .long) (by decide) (by decide)))
  have f14 := Fld.other W9 O2.2.2.1 (Or.inr (slot_ne (Or.inl (hw _ (List.mem_of_getElem? (i := 24) rfl))) (Or.inl (hw _ (List.mem_of_getElem? (i := 28) rfl))) (by decide) (t := .int) (t' := .long) (by decide) (by decide)))
  have f16 := Fld.other W9 O2.2.2.2.2 (Or.inr (slot_ne (Or.inl (hw _ (List.mem_of_getElem? (i := 26) rfl))) (Or.inl (hw _ (List.mem_of_getElem? (i := 28) rfl))) (by decide) (t := .int) (t' := .long) (by decide) (by decide)))
  have f17 := Fld.same W9 O2.2.2.2.1
  have N9 := Fr.snoc X9 N2 g1
  have sz9 : n0 ≤ h9.size := by rw [W9.size]; exact sz2
  show OwnG p e below s _ _ _ (T9.setTop (mkF m 50 #[.val (.ref a1), .val (.int (cc.toInt32)), .val (.long (((own_L b n 0).toUInt64 >>> (((64 : Int32) - (cc.toInt32)) &&& 0x3f).toInt64.toUInt64).toInt64)), .second] []))
  refine own_by (fun t kk_ => XS.aloadN X9.here hx rfl (hb hby d3_50) rfl rfl kk_) ?_
  show OwnG p e below s _ _ _ (T9.setTop (mkF m 51 #[.val (.ref a1), .val (.int (cc.toInt32)), .val (.long (((own_L b n 0).toUInt64 >>> (((64 : Int32) - (cc.toInt32)) &&& 0x3f).toInt64.toUInt64).toInt64)), .second] [(.ref a1)]))
  refine own_by (fun t kk_ => XS.dup X9.here hx rfl (hb hby d3_51) rfl rfl kk_) ?_
  show OwnG p e below s _ _ _ (T9.setTop (mkF m 52 #[.val (.ref a1), .val (.int (cc.toInt32)), .val (.long (((own_L b n 0).toUInt64 >>> (((64 : Int32) - (cc.toInt32)) &&& 0x3f).toInt64.toUInt64).toInt64)), .second] [(.ref a1), (.ref a1)]))
  obtain ⟨T18, X18, e18, st18⟩ := getF X9 hx hZ hown (host := "") (Or.inl (hw _ (List.mem_of_getElem? (i := 25) rfl))) Via.refl e9 f16 (g := (mkF m 52 #[.val (.ref a1), .val (.int (cc.toInt32)), .val (.long (((own_L b n 0).toUInt64 >>> (((64 : Int32) - (cc.toInt32)) &&& 0x3f).toInt64.toUInt64).toInt64)), .second] [(.ref a1), (.ref a1)])) rfl rfl (hb hby d3_52)
  refine own_by (fun t kk_ => st18 _ kk_) ?_
  show OwnG p e below s _ _ _ (T18.setTop (mkF m 55 #[.val (.ref a1), .val (.int (cc.toInt32)), .val (.long (((own_L b n 0).toUInt64 >>> (((64 : Int32) - (cc.toInt32)) &&& 0x3f).toInt64.toUInt64).toInt64)), .second] [(.int (8 * n).toInt32), (.ref a1)]))
  refine own_by (fun t kk_ => XS.iloadN X18.here hx rfl (hb hby d3_55) rfl  kk_) ?_
  show OwnG p e below s _ _ _ (T18.setTop (mkF m 56 #[.val (.ref a1), .val (.int (cc.toInt32)), .val (.long (((own_L b n 0).toUInt64 >>> (((64 : Int32) - (cc.toInt32)) &&& 0x3f).toInt64.toUInt64).toInt64)), .second] [(.int (cc.toInt32)), (.int (8 * n).toInt32), (.ref a1)]))
  refine own_by (fun t kk_ => XS.isub X18.here hx rfl (hb hby d3_56) rfl kk_) ?_
  show OwnG p e below s _ _ _ (T18.setTop (mkF m 57 #[.val (.ref a1), .val (.int (cc.toInt32)), .val (.long (((own_L b n 0).toUInt64 >>> (((64 : Int32) - (cc.toInt32)) &&& 0x3f).toInt64.toUInt64).toInt64)), .second] [(.int ((8 * n).toInt32 - (cc.toInt32))), (.ref a1)]))
  obtain ⟨T19, h19, X19, e19, W19, st19⟩ := putF X18 hx hZ hown (host := "") (Or.inl (hw _ (List.mem_of_getElem? (i := 25) rfl))) Via.refl e18 f16 f11 (Or.inl (hw _ (List.mem_of_getElem? (i := 26) rfl))) (hw _ (List.mem_of_getElem? (i := 3) rfl)) (ty := .int) (by decide) rfl rfl (g := (mkF m 57 #[.val (.ref a1), .val (.int (cc.toInt32)), .val (.long (((own_L b n 0).toUInt64 >>> (((64 : Int32) - (cc.toInt32)) &&& 0x3f).toInt64.toUInt64).toInt64)), .second] [(.int ((8 * n).toInt32 - (cc.toInt32))), (.ref a1)])) rfl rfl (hb hby d3_57)
  refine own_by (fun t kk_ => st19 _ kk_) ?_
  have f20 := OwnA.other W19 f10 (Ne.symm nab)
  have f21 := Exa.wr W19 f11
  have f22 := Keep.wr f12 W19 (Or.inl (by simp))
  have f23 := Fld.other W19 f13 (Or.inr (slot_ne (Or.inr (hw _ (List.mem_of_getElem? (i := 12) rfl))) (Or.inl (hw _ (List.mem_of_getElem? (i := 26) rfl))) (by decide) (t := (.array .byte)) (t' := .int) (by decide) (by decide)))
  have f24 := Fld.other W19 f14 (Or.inr (slot_ne (Or.inl (hw _ (List.mem_of_getElem? (i := 24) rfl))) (Or.inl (hw _ (List.mem_of_getElem? (i := 26) rfl))) (by decide) (t := .int) (t' := .int) (by decide) (by decide)))
  have f25 := Fld.other W19 f17 (Or.inr (slot_ne (Or.inl (hw _ (List.mem_of_getElem? (i := 28) rfl))) (Or.inl (hw _ (List.mem_of_getElem? (i := 26) rfl))) (by decide) (t := .long) (t' := .int) (by decide) (by decide)))
  have f27 := Fld.same W19 f16
  have N19 := Fr.snoc X19 N9 g1
  have sz19 : n0 ≤ h19.size := by rw [W19.size]; exact sz9
  show OwnG p e below s _ _ _ (T19.setTop (mkF m 60 #[.val (.ref a1), .val (.int (cc.toInt32)), .val (.long (((own_L b n 0).toUInt64 >>> (((64 : Int32) - (cc.toInt32)) &&& 0x3f).toInt64.toUInt64).toInt64)), .second] []))
  refine own_by (fun t kk_ => XS.lloadN X19.here hx rfl (hb hby d3_60) rfl  kk_) ?_
  show OwnG p e below s _ _ _ (T19.setTop (mkF m 61 #[.val (.ref a1), .val (.int (cc.toInt32)), .val (.long (((own_L b n 0).toUInt64 >>> (((64 : Int32) - (cc.toInt32)) &&& 0x3f).toInt64.toUInt64).toInt64)), .second] [(.long (((own_L b n 0).toUInt64 >>> (((64 : Int32) - (cc.toInt32)) &&& 0x3f).toInt64.toUInt64).toInt64))]))
  exact own_outL X19 hx hret hlk (hb hby d3_61) (by show _ ∧ _; rw [e19]; exact ⟨⟨_, rfl⟩, N19, f22, ⟨f21, f23, f24, by (have q := own_Lshl b n 0 cc (by omega) (by omega); rw [Nat.zero_add] at q; rw [← q]; exact f25), by rw [← own_sub8 (x := 8 * n) (c := cc) (y := 8 * n - cc) (by omega) (by omega) rfl]; exact f27⟩⟩) (by decide) (by decide)
theorem ef_3z (m : MethodId) (x0 : Addr) (x1 : Int32) : entryFrame m #[(.ref x0), (.int x1)] 4 = mkF m 0 #[.val (.ref x0), .val (.int x1), .unset, .unset] [] := by first | (simp [entryFrame, mkF, argsToLocals, Value.category]; done) | rfl
def Q3z (Z : State) (a1 : Addr) (h0 : Heap) (n0 : Nat) (v : Option Value) (h : Heap) (L : List Loc) : Prop := (∃ z, v = some (.long z)) ∧ Fr n0 L ∧ h = h0
set_option maxRecDepth 65536 in
set_option maxHeartbeats 40000000 in
theorem rm3z (l : Launch) (Z : State) (a0 : Array Value) (hw : ∀ d ∈ tables_1, d.before a0 Z = true) (ws : List Jvm.Cond) (a1 : Addr) (h0 : Heap) (n0 : Nat) (Z0 : n0 ≤ h0.size) :
    MetFree l (⟨"com/example/iota_ranker/iotaranker/index/BitInput", "readBits", "(I)J"⟩ : MethodName) (head1 (Jvm.Cond.code (⟨"com/example/iota_ranker/iotaranker/index/BitInput", "readBits", "(I)J"⟩ : MethodName) prog_46_method_2_code 4 (some .long) :: ws) ({ frames := 0, cells := 0, slots := 0, locals := 0 } : Room)) (fun aa_ U => aa_ = #[(.ref a1), (.int (0 : Int32))] ∧ Z.Warmed39 U.vm ∧ U.heap = h0) (fun _ _ _ _ _ => True) (fun _ U o U' => ∃ v L, o = .returned v ∧ Q3z Z a1 h0 n0 v U'.heap L ∧ FrameEnd U o U' L ({ frames := 0, cells := 0, slots := 0, locals := 0 } : Room).cells ({ frames := 0, cells := 0, slots := 0, locals := 0 } : Room).slots) := by
  refine own_met (Q := fun v h L => Q3z Z a1 h0 n0 v h L) (plainFor_of_name pn_0) ?_
  intro p e s m below meth c s₁ hx hby hml hret hlk hown hnm hZ X0 e0
  have N0 := Fr.nil n0
  rw [ef_3z m a1 (0 : Int32)]
  show OwnG p e below s _ _ _ (s₁.setTop (mkF m 0 #[.val (.ref a1), .val (.int (0 : Int32)), .unset, .unset] []))
  refine own_by (fun t kk_ => XS.iloadN X0.here hx rfl (hb hby d3_0) rfl  kk_) ?_
  show OwnG p e below s _ _ _ (s₁.setTop (mkF m 1 #[.val (.ref a1), .val (.int (0 : Int32)), .unset, .unset] [(.int (0 : Int32))]))
  refine own_by (fun t kk_ => XS.ifNo X0.here hx rfl (hb hby d3_1) rfl ((if0 _ _).trans (teq rfl).2) kk_) ?_
  show OwnG p e below s _ _ _ (s₁.setTop (mkF m 4 #[.val (.ref a1), .val (.int (0 : Int32)), .unset, .unset] []))
  refine own_by (fun t kk_ => XS.lconst X0.here hx rfl (hb hby d3_4) kk_) ?_
  show OwnG p e below s _ _ _ (s₁.setTop (mkF m 5 #[.val (.ref a1), .val (.int (0 : Int32)), .unset, .unset] [(.long (0 : Int64))]))
  exact own_outL X0 hx hret hlk (hb hby d3_5) (⟨⟨_, rfl⟩, N0, e0⟩) (by decide) (by decide)
theorem d4_0 : decode prog_46_method_6_code 0 = .ok (.aload_n 0, 1) := by decide +kernel
theorem d4_1 : decode prog_46_method_6_code 1 = .ok (.getfield 56, 3) := by decide +kernel
theorem d4_4 : decode prog_46_method_6_code 4 = .ok (.aload_n 0, 1) := by decide +kernel
theorem d4_5 : decode prog_46_method_6_code 5 = .ok (.getfield 9, 3) := by decide +kernel
theorem d4_8 : decode prog_46_method_6_code 8 = .ok (.arraylength, 1) := by decide +kernel
theorem d4_9 : decode prog_46_method_6_code 9 = .ok (.if_icmp .ne 25, 3) := by decide +kernel
theorem d4_12 : decode prog_46_method_6_code 12 = .ok (.aload_n 0, 1) := by decide +kernel
theorem d4_13 : decode prog_46_method_6_code 13 = .ok (.getfield 15, 3) := by decide +kernel
theorem d4_16 : decode prog_46_method_6_code 16 = .ok (.bipush 8, 2) := by decide +kernel
theorem d4_18 : decode prog_46_method_6_code 18 = .ok (.if_icmp .ge 16, 3) := by decide +kernel
theorem d4_21 : decode prog_46_method_6_code 21 = .ok (.aload_n 0, 1) := by decide +kernel
theorem d4_22 : decode prog_46_method_6_code 22 = .ok (.getfield 26, 3) := by decide +kernel
theorem d4_25 : decode prog_46_method_6_code 25 = .ok (.lconst 0, 1) := by decide +kernel
theorem d4_26 : decode prog_46_method_6_code 26 = .ok (.lcmp, 1) := by decide +kernel
theorem d4_27 : decode prog_46_method_6_code 27 = .ok (.ifCond .ne 7, 3) := by decide +kernel
theorem d4_30 : decode prog_46_method_6_code 30 = .ok (.iconst 1, 1) := by decide +kernel
theorem d4_31 : decode prog_46_method_6_code 31 = .ok (.goto 4, 3) := by decide +kernel
theorem d4_34 : decode prog_46_method_6_code 34 = .ok (.iconst 0, 1) := by decide +kernel
theorem d4_35 : decode prog_46_method_6_code 35 = .ok (.ireturn, 1) := by decide +kernel
theorem ef_4 (m : MethodId) (x0 : Addr) : entryFrame m #[(.ref x0)] 1 = mkF m 0 #[.val (.ref x0)] [] := by first | (simp [entryFrame, mkF, argsToLocals, Value.category]; done) | rfl
def Q4 (Z : State) (a1 ab : Addr) (b : Int32) (n : Nat) (nx : Int32) (ld : Int64) (lb : Int32) (h0 : Heap) (n0 : Nat) (v : Option Value) (h : Heap) (L : List Loc) : Prop := v = some (.int (own_pad (nx = n.toInt32 ∧ lb < 8 ∧ ld = 0))) ∧ Fr n0 L ∧ h = h0
set_option maxRecDepth 65536 in
set_option maxHeartbeats 40000000 in
theorem rm4 (l : Launch) (Z : State) (a0 : Array Value) (hw : ∀ d ∈ tables_1, d.before a0 Z = true) (ws : List Jvm.Cond) (a1 ab : Addr) (b : Int32) (n : Nat) (nx : Int32) (ld : Int64) (lb : Int32) (h0 : Heap) (n0 : Nat) (Z0 : n0 ≤ h0.size) (Ob : own_O Z h0 a1 ab nx ld lb) (Ab : OwnA Z h0 ab .byte n (fun i => .int (own_b b i))) :
    MetFree l (⟨"com/example/iota_ranker/iotaranker/index/BitInput", "atPadding", "()Z"⟩ : MethodName) (head1 (Jvm.Cond.code (⟨"com/example/iota_ranker/iotaranker/index/BitInput", "atPadding", "()Z"⟩ : MethodName) prog_46_method_6_code 1 (some .boolean) :: ws) ({ frames := 0, cells := 0, slots := 0, locals := 0 } : Room)) (fun aa_ U => aa_ = #[(.ref a1)] ∧ Z.Warmed39 U.vm ∧ U.heap = h0) (fun _ _ _ _ _ => True) (fun _ U o U' => ∃ v L, o = .returned v ∧ Q4 Z a1 ab b n nx ld lb h0 n0 v U'.heap L ∧ FrameEnd U o U' L ({ frames := 0, cells := 0, slots := 0, locals := 0 } : Room).cells ({ frames := 0, cells := 0, slots := 0, locals := 0 } : Room).slots) := by
  refine own_met (Q := fun v h L => Q4 Z a1 ab b n nx ld lb h0 n0 v h L) (plainFor_of_name pn_0) ?_
  intro p e s m below meth c s₁ hx hby hml hret hlk hown hnm hZ X0 e0
  have N0 := Fr.nil n0
  rw [ef_4 m a1]
  show OwnG p e below s _ _ _ (s₁.setTop (mkF m 0 #[.val (.ref a1)] []))
  refine own_by (fun t kk_ => XS.aloadN X0.here hx rfl (hb hby d4_0) rfl rfl kk_) ?_
  show OwnG p e below s _ _ _ (s₁.setTop (mkF m 1 #[.val (.ref a1)] [(.ref a1)]))
  obtain ⟨T1, X1, e1, st1⟩ := getF X0 hx hZ hown (host := "") (Or.inl (hw _ (List.mem_of_getElem? (i := 23) rfl))) Via.refl e0 Ob.2.2.1 (g := (mkF m 1 #[.val (.ref a1)] [(.ref a1)])) rfl rfl (hb hby d4_1)
  refine own_by (fun t kk_ => st1 _ kk_) ?_
  show OwnG p e below s _ _ _ (T1.setTop (mkF m 4 #[.val (.ref a1)] [(.int nx)]))
  refine own_by (fun t kk_ => XS.aloadN X1.here hx rfl (hb hby d4_4) rfl rfl kk_) ?_
  show OwnG p e below s _ _ _ (T1.setTop (mkF m 5 #[.val (.ref a1)] [(.ref a1), (.int nx)]))
  obtain ⟨T2, X2, e2, st2⟩ := getF X1 hx hZ hown (host := "") (Or.inl (hw _ (List.mem_of_getElem? (i := 11) rfl))) Via.refl e1 Ob.2.1 (g := (mkF m 5 #[.val (.ref a1)] [(.ref a1), (.int nx)])) rfl rfl (hb hby d4_5)
  refine own_by (fun t kk_ => st2 _ kk_) ?_
  show OwnG p e below s _ _ _ (T2.setTop (mkF m 8 #[.val (.ref a1)] [(.ref ab), (.int nx)]))
  refine own_by (fun t kk_ => own_len X2 hx hZ e2 Ab (z := n.toInt32) rfl (g := (mkF m 8 #[.val (.ref a1)] [(.ref ab), (.int nx)])) rfl rfl (hb hby d4_8) _ kk_) ?_
  show OwnG p e below s _ _ _ (T2.setTop (mkF m 9 #[.val (.ref a1)] [(.int n.toInt32), (.int nx)]))
  by_cases hb9_3 : nx = n.toInt32
  · refine own_by (fun t kk_ => XS.icmpNo X2.here hx rfl (hb hby d4_9) rfl (teq hb9_3).2 kk_) ?_
    show OwnG p e below s _ _ _ (T2.setTop (mkF m 12 #[.val (.ref a1)] []))
    refine own_by (fun t kk_ => XS.aloadN X2.here hx rfl (hb hby d4_12) rfl rfl kk_) ?_
    show OwnG p e below s _ _ _ (T2.setTop (mkF m 13 #[.val (.ref a1)] [(.ref a1)]))
    obtain ⟨T4, X4, e4, st4⟩ := getF X2 hx hZ hown (host := "") (Or.inl (hw _ (List.mem_of_getElem? (i := 25) rfl))) Via.refl e2 Ob.2.2.2.2 (g := (mkF m 13 #[.val (.ref a1)] [(.ref a1)])) rfl rfl (hb hby d4_13)
    refine own_by (fun t kk_ => st4 _ kk_) ?_
    show OwnG p e below s _ _ _ (T4.setTop (mkF m 16 #[.val (.ref a1)] [(.int lb)]))
    refine own_by (fun t kk_ => XS.bipush X4.here hx rfl (hb hby d4_16) kk_) ?_
    show OwnG p e below s _ _ _ (T4.setTop (mkF m 18 #[.val (.ref a1)] [(.int (8 : Int32)), (.int lb)]))
    by_cases hb18_5 : lb < (8 : Int32)
    · refine own_by (fun t kk_ => XS.icmpNo X4.here hx rfl (hb hby d4_18) rfl (tlt hb18_5).2.1 kk_) ?_
      show OwnG p e below s _ _ _ (T4.setTop (mkF m 21 #[.val (.ref a1)] []))
      refine own_by (fun t kk_ => XS.aloadN X4.here hx rfl (hb hby d4_21) rfl rfl kk_) ?_
      show OwnG p e below s _ _ _ (T4.setTop (mkF m 22 #[.val (.ref a1)] [(.ref a1)]))
      obtain ⟨T6, X6, e6, st6⟩ := getF X4 hx hZ hown (host := "") (Or.inl (hw _ (List.mem_of_getElem? (i := 27) rfl))) Via.refl e4 Ob.2.2.2.1 (g := (mkF m 22 #[.val (.ref a1)] [(.ref a1)])) rfl rfl (hb hby d4_22)
      refine own_by (fun t kk_ => st6 _ kk_) ?_
      show OwnG p e below s _ _ _ (T6.setTop (mkF m 25 #[.val (.ref a1)] [(.long ld)]))
      refine own_by (fun t kk_ => XS.lconst X6.here hx rfl (hb hby d4_25) kk_) ?_
      show OwnG p e below s _ _ _ (T6.setTop (mkF m 26 #[.val (.ref a1)] [(.long (0 : Int64)), (.long ld)]))
      refine own_by (fun t kk_ => XS.lcmp X6.here hx rfl (hb hby d4_26) rfl kk_) ?_
      show OwnG p e below s _ _ _ (T6.setTop (mkF m 27 #[.val (.ref a1)] [(.int (lcmpW ld (0 : Int64)))]))
      by_cases hb27_7 : ld = (0 : Int64)
      · refine own_by (fun t kk_ => XS.ifNo X6.here hx rfl (hb hby d4_27) rfl ((if0 _ _).trans (teq ((lw_eq _ _).mpr hb27_7)).2) kk_) ?_
        show OwnG p e below s _ _ _ (T6.setTop (mkF m 30 #[.val (.ref a1)] []))
        refine own_by (fun t kk_ => XS.iconst X6.here hx rfl (hb hby d4_30) kk_) ?_
        show OwnG p e below s _ _ _ (T6.setTop (mkF m 31 #[.val (.ref a1)] [(.int (1 : Int32))]))
        refine own_by (fun t kk_ => XS.goto X6.here hx rfl (pc0 := 31) (pc' := 35) rfl (hb hby d4_31) (by decide) (by decide) kk_) ?_
        show OwnG p e below s _ _ _ (T6.setTop (mkF m 35 #[.val (.ref a1)] [(.int (1 : Int32))]))
        exact own_outN X6 hx hret (by simp) hlk (hb hby d4_35) rfl (⟨by simp [own_pad, hb9_3, hb18_5, hb27_7]; rfl, N0, e6⟩) (by decide) (by decide)
      · refine own_by (fun t kk_ => XS.ifYes X6.here hx rfl (pc0 := 27) (pc' := 34) rfl (hb hby d4_27) rfl ((if0 _ _).trans (feq (fun q => hb27_7 ((lw_eq _ _).mp q))).2) (by decide) (by decide) kk_) ?_
        show OwnG p e below s _ _ _ (T6.setTop (mkF m 34 #[.val (.ref a1)] []))
        refine own_by (fun t kk_ => XS.iconst X6.here hx rfl (hb hby d4_34) kk_) ?_
        show OwnG p e below s _ _ _ (T6.setTop (mkF m 35 #[.val (.ref a1)] [(.int (0 : Int32))]))
        exact own_outN X6 hx hret (by simp) hlk (hb hby d4_35) rfl (⟨by simp [own_pad, hb9_3, hb18_5, hb27_7]; rfl, N0, e6⟩) (by decide) (by decide)
    · refine own_by (fun t kk_ => XS.icmpYes X4.here hx rfl (pc0 := 18) (pc' := 34) rfl (hb hby d4_18) rfl (flt hb18_5).2.1 (by decide) (by decide) kk_) ?_
      show OwnG p e below s _ _ _ (T4.setTop (mkF m 34 #[.val (.ref a1)] []))
      refine own_by (fun t kk_ => XS.iconst X4.here hx rfl (hb hby d4_34) kk_) ?_
      show OwnG p e below s _ _ _ (T4.setTop (mkF m 35 #[.val (.ref a1)] [(.int (0 : Int32))]))
      exact own_outN X4 hx hret (by simp) hlk (hb hby d4_35) rfl (⟨by simp [own_pad, hb9_3, hb18_5]; rfl, N0, e4⟩) (by decide) (by decide)
  · refine own_by (fun t kk_ => XS.icmpYes X2.here hx rfl (pc0 := 9) (pc' := 34) rfl (hb hby d4_9) rfl (feq hb9_3).2 (by decide) (by decide) kk_) ?_
    show OwnG p e below s _ _ _ (T2.setTop (mkF m 34 #[.val (.ref a1)] []))
    refine own_by (fun t kk_ => XS.iconst X2.here hx rfl (hb hby d4_34) kk_) ?_
    show OwnG p e below s _ _ _ (T2.setTop (mkF m 35 #[.val (.ref a1)] [(.int (0 : Int32))]))
    exact own_outN X2 hx hret (by simp) hlk (hb hby d4_35) rfl (⟨by simp [own_pad, hb9_3]; rfl, N0, e2⟩) (by decide) (by decide)
theorem pn_1 : plainName "com/example/iota_ranker/iotaranker/index/BitInputAtPaddingPinLaw" = true := by first | (simp [plainName, overriddenIn]; done) | decide +kernel
theorem pd_1 : parseMethodDescriptor "([B)V" = some ⟨[(.array .byte)], none⟩ := by decide +kernel
theorem pd_2 : parseMethodDescriptor "(I)J" = some ⟨[.int], some .long⟩ := by decide +kernel
theorem pd_3 : parseMethodDescriptor "()Z" = some ⟨[], some .boolean⟩ := by decide +kernel
set_option maxRecDepth 65536 in
set_option maxHeartbeats 40000000 in
theorem own_end {p : Program} {l : Launch} {e : Env} {s : State} {m : MethodId} {args : Array Value} {below : List Frame} {meth : Method} {c : Code} {T0 : State} {locs : List Loc} {Z : State} {a0 : Array Value} {h0 : Heap} {n0 : Nat} (a b c0 d : Int32) (n k1 k2 : Nat) (ab ob : Addr) (pd : Int32) (X0 : Stand p l e room_1 s m args below meth c T0 locs (0 + 1 + 1) (0 + 4 + 4)) (hx : p.tables.exec = Jvm.exec) (hby : c.code = code) (hml : c.maxLocals = 17) (hret : meth.sig.returnType = some .boolean) (hlk : meth.locks = false) (hown : s.vm.findClass "com/example/iota_ranker/iotaranker/index/BitInputAtPaddingPinLaw" = some m.cls) (hnm : meth.name = "law") (hZ : Z.Warmed39 s.vm) (hw : ∀ d ∈ tables_1, d.before a0 Z = true) (e0 : T0.heap = h0) (N0 : Fr n0 locs) (Z0 : n0 ≤ h0.size) (hp : pd = own_pad (8 * n - (k1 + k2) < 8 ∧ own_L b n (k1 + k2) = 0)) (hk : k1 + k2 ≤ 8 * n) (hn4 : n ≤ 4) :
    OwnG p e below s (fun v h L => v = some (.int (1 : Int32)) ∧ Fr n0 L) room_1.cells room_1.slots (T0.setTop (mkF m 134 #[.val (.int a), .val (.int b), .val (.int c0), .val (.int d), .val (.int n.toInt32), .val (.int (8 * n).toInt32), .val (.ref ab), .val (.int k1.toInt32), .val (.int k2.toInt32), .val (.ref ob), .unset, .unset, .unset, .unset, .unset, .unset, .unset] [(.int pd)])) := by
  show OwnG p e below s _ _ _ (T0.setTop (mkF m 134 #[.val (.int a), .val (.int b), .val (.int c0), .val (.int d), .val (.int n.toInt32), .val (.int (8 * n).toInt32), .val (.ref ab), .val (.int k1.toInt32), .val (.int k2.toInt32), .val (.ref ob), .unset, .unset, .unset, .unset, .unset, .unset, .unset] [(.int pd)]))
  refine own_by (fun t kk_ => XS.istore X0.here hx rfl (hb hby at_134) rfl (l' := #[.val (.int a), .val (.int b), .val (.int c0), .val (.int d), .val (.int n.toInt32), .val (.int (8 * n).toInt32), .val (.ref ab), .val (.int k1.toInt32), .val (.int k2.toInt32), .val (.ref ob), .val (.int pd), .unset, .unset, .unset, .unset, .unset, .unset]) rfl kk_) ?_
  show OwnG p e below s _ _ _ (T0.setTop (mkF m 136 #[.val (.int a), .val (.int b), .val (.int c0), .val (.int d), .val (.int n.toInt32), .val (.int (8 * n).toInt32), .val (.ref ab), .val (.int k1.toInt32), .val (.int k2.toInt32), .val (.ref ob), .val (.int pd), .unset, .unset, .unset, .unset, .unset, .unset] []))
  refine own_by (fun t kk_ => XS.iload X0.here hx rfl (hb hby at_136) rfl  kk_) ?_
  show OwnG p e below s _ _ _ (T0.setTop (mkF m 138 #[.val (.int a), .val (.int b), .val (.int c0), .val (.int d), .val (.int n.toInt32), .val (.int (8 * n).toInt32), .val (.ref ab), .val (.int k1.toInt32), .val (.int k2.toInt32), .val (.ref ob), .val (.int pd), .unset, .unset, .unset, .unset, .unset, .unset] [(.int (8 * n).toInt32)]))
  refine own_by (fun t kk_ => XS.iload X0.here hx rfl (hb hby at_138) rfl  kk_) ?_
  show OwnG p e below s _ _ _ (T0.setTop (mkF m 140 #[.val (.int a), .val (.int b), .val (.int c0), .val (.int d), .val (.int n.toInt32), .val (.int (8 * n).toInt32), .val (.ref ab), .val (.int k1.toInt32), .val (.int k2.toInt32), .val (.ref ob), .val (.int pd), .unset, .unset, .unset, .unset, .unset, .unset] [(.int k1.toInt32), (.int (8 * n).toInt32)]))
  refine own_by (fun t kk_ => XS.isub X0.here hx rfl (hb hby at_140) rfl kk_) ?_
  show OwnG p e below s _ _ _ (T0.setTop (mkF m 141 #[.val (.int a), .val (.int b), .val (.int c0), .val (.int d), .val (.int n.toInt32), .val (.int (8 * n).toInt32), .val (.ref ab), .val (.int k1.toInt32), .val (.int k2.toInt32), .val (.ref ob), .val (.int pd), .unset, .unset, .unset, .unset, .unset, .unset] [(.int ((8 * n).toInt32 - k1.toInt32))]))
  refine own_by (fun t kk_ => XS.iload X0.here hx rfl (hb hby at_141) rfl  kk_) ?_
  show OwnG p e below s _ _ _ (T0.setTop (mkF m 143 #[.val (.int a), .val (.int b), .val (.int c0), .val (.int d), .val (.int n.toInt32), .val (.int (8 * n).toInt32), .val (.ref ab), .val (.int k1.toInt32), .val (.int k2.toInt32), .val (.ref ob), .val (.int pd), .unset, .unset, .unset, .unset, .unset, .unset] [(.int k2.toInt32), (.int ((8 * n).toInt32 - k1.toInt32))]))
  refine own_by (fun t kk_ => XS.isub X0.here hx rfl (hb hby at_143) rfl kk_) ?_
  show OwnG p e below s _ _ _ (T0.setTop (mkF m 144 #[.val (.int a), .val (.int b), .val (.int c0), .val (.int d), .val (.int n.toInt32), .val (.int (8 * n).toInt32), .val (.ref ab), .val (.int k1.toInt32), .val (.int k2.toInt32), .val (.ref ob), .val (.int pd), .unset, .unset, .unset, .unset, .unset, .unset] [(.int (((8 * n).toInt32 - k1.toInt32) - k2.toInt32))]))
  rw [own_left n k1 k2 hk (by omega)]
  show OwnG p e below s _ _ _ (T0.setTop (mkF m 144 #[.val (.int a), .val (.int b), .val (.int c0), .val (.int d), .val (.int n.toInt32), .val (.int (8 * n).toInt32), .val (.ref ab), .val (.int k1.toInt32), .val (.int k2.toInt32), .val (.ref ob), .val (.int pd), .unset, .unset, .unset, .unset, .unset, .unset] [(.int (8 * n - (k1 + k2)).toInt32)]))
  refine own_by (fun t kk_ => XS.istore X0.here hx rfl (hb hby at_144) rfl (l' := #[.val (.int a), .val (.int b), .val (.int c0), .val (.int d), .val (.int n.toInt32), .val (.int (8 * n).toInt32), .val (.ref ab), .val (.int k1.toInt32), .val (.int k2.toInt32), .val (.ref ob), .val (.int pd), .val (.int (8 * n - (k1 + k2)).toInt32), .unset, .unset, .unset, .unset, .unset]) rfl kk_) ?_
  show OwnG p e below s _ _ _ (T0.setTop (mkF m 146 #[.val (.int a), .val (.int b), .val (.int c0), .val (.int d), .val (.int n.toInt32), .val (.int (8 * n).toInt32), .val (.ref ab), .val (.int k1.toInt32), .val (.int k2.toInt32), .val (.ref ob), .val (.int pd), .val (.int (8 * n - (k1 + k2)).toInt32), .unset, .unset, .unset, .unset, .unset] []))
  refine own_by (fun t kk_ => XS.iloadN X0.here hx rfl (hb hby at_146) rfl  kk_) ?_
  show OwnG p e below s _ _ _ (T0.setTop (mkF m 147 #[.val (.int a), .val (.int b), .val (.int c0), .val (.int d), .val (.int n.toInt32), .val (.int (8 * n).toInt32), .val (.ref ab), .val (.int k1.toInt32), .val (.int k2.toInt32), .val (.ref ob), .val (.int pd), .val (.int (8 * n - (k1 + k2)).toInt32), .unset, .unset, .unset, .unset, .unset] [(.int b)]))
  refine own_by (fun t kk_ => XS.i2l X0.here hx rfl (hb hby at_147) rfl kk_) ?_
  show OwnG p e below s _ _ _ (T0.setTop (mkF m 148 #[.val (.int a), .val (.int b), .val (.int c0), .val (.int d), .val (.int n.toInt32), .val (.int (8 * n).toInt32), .val (.ref ab), .val (.int k1.toInt32), .val (.int k2.toInt32), .val (.ref ob), .val (.int pd), .val (.int (8 * n - (k1 + k2)).toInt32), .unset, .unset, .unset, .unset, .unset] [(.long (b.toInt64))]))
  refine own_by (fun t kk_ => X0.ldc2Long hx hown (mvT hZ (hw _ (List.mem_of_getElem? (i := 29) rfl))) (g := (mkF m 148 #[.val (.int a), .val (.int b), .val (.int c0), .val (.int d), .val (.int n.toInt32), .val (.int (8 * n).toInt32), .val (.ref ab), .val (.int k1.toInt32), .val (.int k2.toInt32), .val (.ref ob), .val (.int pd), .val (.int (8 * n - (k1 + k2)).toInt32), .unset, .unset, .unset, .unset, .unset] [(.long (b.toInt64))])) rfl (hb hby at_148) _ kk_) ?_
  show OwnG p e below s _ _ _ (T0.setTop (mkF m 151 #[.val (.int a), .val (.int b), .val (.int c0), .val (.int d), .val (.int n.toInt32), .val (.int (8 * n).toInt32), .val (.ref ab), .val (.int k1.toInt32), .val (.int k2.toInt32), .val (.ref ob), .val (.int pd), .val (.int (8 * n - (k1 + k2)).toInt32), .unset, .unset, .unset, .unset, .unset] [(.long (4294967295 : Int64)), (.long (b.toInt64))]))
  refine own_by (fun t kk_ => XS.land X0.here hx rfl (hb hby at_151) rfl kk_) ?_
  show OwnG p e below s _ _ _ (T0.setTop (mkF m 152 #[.val (.int a), .val (.int b), .val (.int c0), .val (.int d), .val (.int n.toInt32), .val (.int (8 * n).toInt32), .val (.ref ab), .val (.int k1.toInt32), .val (.int k2.toInt32), .val (.ref ob), .val (.int pd), .val (.int (8 * n - (k1 + k2)).toInt32), .unset, .unset, .unset, .unset, .unset] [(.long ((b.toInt64) &&& (4294967295 : Int64)))]))
  refine own_by (fun t kk_ => XS.bipush X0.here hx rfl (hb hby at_152) kk_) ?_
  show OwnG p e below s _ _ _ (T0.setTop (mkF m 154 #[.val (.int a), .val (.int b), .val (.int c0), .val (.int d), .val (.int n.toInt32), .val (.int (8 * n).toInt32), .val (.ref ab), .val (.int k1.toInt32), .val (.int k2.toInt32), .val (.ref ob), .val (.int pd), .val (.int (8 * n - (k1 + k2)).toInt32), .unset, .unset, .unset, .unset, .unset] [(.int (32 : Int32)), (.long ((b.toInt64) &&& (4294967295 : Int64)))]))
  refine own_by (fun t kk_ => XS.iload X0.here hx rfl (hb hby at_154) rfl  kk_) ?_
  show OwnG p e below s _ _ _ (T0.setTop (mkF m 156 #[.val (.int a), .val (.int b), .val (.int c0), .val (.int d), .val (.int n.toInt32), .val (.int (8 * n).toInt32), .val (.ref ab), .val (.int k1.toInt32), .val (.int k2.toInt32), .val (.ref ob), .val (.int pd), .val (.int (8 * n - (k1 + k2)).toInt32), .unset, .unset, .unset, .unset, .unset] [(.int (8 * n).toInt32), (.int (32 : Int32)), (.long ((b.toInt64) &&& (4294967295 : Int64)))]))
  refine own_by (fun t kk_ => XS.isub X0.here hx rfl (hb hby at_156) rfl kk_) ?_
  show OwnG p e below s _ _ _ (T0.setTop (mkF m 157 #[.val (.int a), .val (.int b), .val (.int c0), .val (.int d), .val (.int n.toInt32), .val (.int (8 * n).toInt32), .val (.ref ab), .val (.int k1.toInt32), .val (.int k2.toInt32), .val (.ref ob), .val (.int pd), .val (.int (8 * n - (k1 + k2)).toInt32), .unset, .unset, .unset, .unset, .unset] [(.int ((32 : Int32) - (8 * n).toInt32)), (.long ((b.toInt64) &&& (4294967295 : Int64)))]))
  refine own_by (fun t kk_ => XS.lushr X0.here hx rfl (hb hby at_157) rfl kk_) ?_
  show OwnG p e below s _ _ _ (T0.setTop (mkF m 158 #[.val (.int a), .val (.int b), .val (.int c0), .val (.int d), .val (.int n.toInt32), .val (.int (8 * n).toInt32), .val (.ref ab), .val (.int k1.toInt32), .val (.int k2.toInt32), .val (.ref ob), .val (.int pd), .val (.int (8 * n - (k1 + k2)).toInt32), .unset, .unset, .unset, .unset, .unset] [(.long ((((b.toInt64) &&& (4294967295 : Int64)).toUInt64 >>> (((32 : Int32) - (8 * n).toInt32) &&& 0x3f).toInt64.toUInt64).toInt64))]))
  generalize h_sm : ((((b.toInt64) &&& (4294967295 : Int64)).toUInt64 >>> (((32 : Int32) - (8 * n).toInt32) &&& 0x3f).toInt64.toUInt64).toInt64) = sm
  show OwnG p e below s _ _ _ (T0.setTop (mkF m 158 #[.val (.int a), .val (.int b), .val (.int c0), .val (.int d), .val (.int n.toInt32), .val (.int (8 * n).toInt32), .val (.ref ab), .val (.int k1.toInt32), .val (.int k2.toInt32), .val (.ref ob), .val (.int pd), .val (.int (8 * n - (k1 + k2)).toInt32), .unset, .unset, .unset, .unset, .unset] [(.long sm)]))
  refine own_by (fun t kk_ => XS.lstore X0.here hx rfl (hb hby at_158) rfl (l' := #[.val (.int a), .val (.int b), .val (.int c0), .val (.int d), .val (.int n.toInt32), .val (.int (8 * n).toInt32), .val (.ref ab), .val (.int k1.toInt32), .val (.int k2.toInt32), .val (.ref ob), .val (.int pd), .val (.int (8 * n - (k1 + k2)).toInt32), .val (.long sm), .second, .unset, .unset, .unset]) rfl kk_) ?_
  show OwnG p e below s _ _ _ (T0.setTop (mkF m 160 #[.val (.int a), .val (.int b), .val (.int c0), .val (.int d), .val (.int n.toInt32), .val (.int (8 * n).toInt32), .val (.ref ab), .val (.int k1.toInt32), .val (.int k2.toInt32), .val (.ref ob), .val (.int pd), .val (.int (8 * n - (k1 + k2)).toInt32), .val (.long sm), .second, .unset, .unset, .unset] []))
  refine own_by (fun t kk_ => XS.lload X0.here hx rfl (hb hby at_160) rfl  kk_) ?_
  show OwnG p e below s _ _ _ (T0.setTop (mkF m 162 #[.val (.int a), .val (.int b), .val (.int c0), .val (.int d), .val (.int n.toInt32), .val (.int (8 * n).toInt32), .val (.ref ab), .val (.int k1.toInt32), .val (.int k2.toInt32), .val (.ref ob), .val (.int pd), .val (.int (8 * n - (k1 + k2)).toInt32), .val (.long sm), .second, .unset, .unset, .unset] [(.long sm)]))
  refine own_by (fun t kk_ => XS.lconst X0.here hx rfl (hb hby at_162) kk_) ?_
  show OwnG p e below s _ _ _ (T0.setTop (mkF m 163 #[.val (.int a), .val (.int b), .val (.int c0), .val (.int d), .val (.int n.toInt32), .val (.int (8 * n).toInt32), .val (.ref ab), .val (.int k1.toInt32), .val (.int k2.toInt32), .val (.ref ob), .val (.int pd), .val (.int (8 * n - (k1 + k2)).toInt32), .val (.long sm), .second, .unset, .unset, .unset] [(.long (1 : Int64)), (.long sm)]))
  refine own_by (fun t kk_ => XS.iload X0.here hx rfl (hb hby at_163) rfl  kk_) ?_
  show OwnG p e below s _ _ _ (T0.setTop (mkF m 165 #[.val (.int a), .val (.int b), .val (.int c0), .val (.int d), .val (.int n.toInt32), .val (.int (8 * n).toInt32), .val (.ref ab), .val (.int k1.toInt32), .val (.int k2.toInt32), .val (.ref ob), .val (.int pd), .val (.int (8 * n - (k1 + k2)).toInt32), .val (.long sm), .second, .unset, .unset, .unset] [(.int (8 * n - (k1 + k2)).toInt32), (.long (1 : Int64)), (.long sm)]))
  refine own_by (fun t kk_ => XS.lshl X0.here hx rfl (hb hby at_165) rfl kk_) ?_
  show OwnG p e below s _ _ _ (T0.setTop (mkF m 166 #[.val (.int a), .val (.int b), .val (.int c0), .val (.int d), .val (.int n.toInt32), .val (.int (8 * n).toInt32), .val (.ref ab), .val (.int k1.toInt32), .val (.int k2.toInt32), .val (.ref ob), .val (.int pd), .val (.int (8 * n - (k1 + k2)).toInt32), .val (.long sm), .second, .unset, .unset, .unset] [(.long ((1 : Int64) <<< ((8 * n - (k1 + k2)).toInt32 &&& 0x3f).toInt64)), (.long sm)]))
  refine own_by (fun t kk_ => XS.lconst X0.here hx rfl (hb hby at_166) kk_) ?_
  show OwnG p e below s _ _ _ (T0.setTop (mkF m 167 #[.val (.int a), .val (.int b), .val (.int c0), .val (.int d), .val (.int n.toInt32), .val (.int (8 * n).toInt32), .val (.ref ab), .val (.int k1.toInt32), .val (.int k2.toInt32), .val (.ref ob), .val (.int pd), .val (.int (8 * n - (k1 + k2)).toInt32), .val (.long sm), .second, .unset, .unset, .unset] [(.long (1 : Int64)), (.long ((1 : Int64) <<< ((8 * n - (k1 + k2)).toInt32 &&& 0x3f).toInt64)), (.long sm)]))
  refine own_by (fun t kk_ => XS.lsub X0.here hx rfl (hb hby at_167) rfl kk_) ?_
  show OwnG p e below s _ _ _ (T0.setTop (mkF m 168 #[.val (.int a), .val (.int b), .val (.int c0), .val (.int d), .val (.int n.toInt32), .val (.int (8 * n).toInt32), .val (.ref ab), .val (.int k1.toInt32), .val (.int k2.toInt32), .val (.ref ob), .val (.int pd), .val (.int (8 * n - (k1 + k2)).toInt32), .val (.long sm), .second, .unset, .unset, .unset] [(.long (((1 : Int64) <<< ((8 * n - (k1 + k2)).toInt32 &&& 0x3f).toInt64) - (1 : Int64))), (.long sm)]))
  refine own_by (fun t kk_ => XS.land X0.here hx rfl (hb hby at_168) rfl kk_) ?_
  show OwnG p e below s _ _ _ (T0.setTop (mkF m 169 #[.val (.int a), .val (.int b), .val (.int c0), .val (.int d), .val (.int n.toInt32), .val (.int (8 * n).toInt32), .val (.ref ab), .val (.int k1.toInt32), .val (.int k2.toInt32), .val (.ref ob), .val (.int pd), .val (.int (8 * n - (k1 + k2)).toInt32), .val (.long sm), .second, .unset, .unset, .unset] [(.long (sm &&& (((1 : Int64) <<< ((8 * n - (k1 + k2)).toInt32 &&& 0x3f).toInt64) - (1 : Int64))))]))
  have hrest : (sm &&& (((1 : Int64) <<< ((8 * n - (k1 + k2)).toInt32 &&& 0x3f).toInt64) - (1 : Int64))) = own_rest b n (k1 + k2) := by subst_vars; rfl
  rw [hrest]
  show OwnG p e below s _ _ _ (T0.setTop (mkF m 169 #[.val (.int a), .val (.int b), .val (.int c0), .val (.int d), .val (.int n.toInt32), .val (.int (8 * n).toInt32), .val (.ref ab), .val (.int k1.toInt32), .val (.int k2.toInt32), .val (.ref ob), .val (.int pd), .val (.int (8 * n - (k1 + k2)).toInt32), .val (.long sm), .second, .unset, .unset, .unset] [(.long (own_rest b n (k1 + k2)))]))
  refine own_by (fun t kk_ => XS.lstore X0.here hx rfl (hb hby at_169) rfl (l' := #[.val (.int a), .val (.int b), .val (.int c0), .val (.int d), .val (.int n.toInt32), .val (.int (8 * n).toInt32), .val (.ref ab), .val (.int k1.toInt32), .val (.int k2.toInt32), .val (.ref ob), .val (.int pd), .val (.int (8 * n - (k1 + k2)).toInt32), .val (.long sm), .second, .val (.long (own_rest b n (k1 + k2))), .second, .unset]) rfl kk_) ?_
  show OwnG p e below s _ _ _ (T0.setTop (mkF m 171 #[.val (.int a), .val (.int b), .val (.int c0), .val (.int d), .val (.int n.toInt32), .val (.int (8 * n).toInt32), .val (.ref ab), .val (.int k1.toInt32), .val (.int k2.toInt32), .val (.ref ob), .val (.int pd), .val (.int (8 * n - (k1 + k2)).toInt32), .val (.long sm), .second, .val (.long (own_rest b n (k1 + k2))), .second, .unset] []))
  refine own_by (fun t kk_ => XS.iload X0.here hx rfl (hb hby at_171) rfl  kk_) ?_
  show OwnG p e below s _ _ _ (T0.setTop (mkF m 173 #[.val (.int a), .val (.int b), .val (.int c0), .val (.int d), .val (.int n.toInt32), .val (.int (8 * n).toInt32), .val (.ref ab), .val (.int k1.toInt32), .val (.int k2.toInt32), .val (.ref ob), .val (.int pd), .val (.int (8 * n - (k1 + k2)).toInt32), .val (.long sm), .second, .val (.long (own_rest b n (k1 + k2))), .second, .unset] [(.int (8 * n - (k1 + k2)).toInt32)]))
  refine own_by (fun t kk_ => XS.bipush X0.here hx rfl (hb hby at_173) kk_) ?_
  show OwnG p e below s _ _ _ (T0.setTop (mkF m 175 #[.val (.int a), .val (.int b), .val (.int c0), .val (.int d), .val (.int n.toInt32), .val (.int (8 * n).toInt32), .val (.ref ab), .val (.int k1.toInt32), .val (.int k2.toInt32), .val (.ref ob), .val (.int pd), .val (.int (8 * n - (k1 + k2)).toInt32), .val (.long sm), .second, .val (.long (own_rest b n (k1 + k2))), .second, .unset] [(.int (8 : Int32)), (.int (8 * n - (k1 + k2)).toInt32)]))
  by_cases hb175_1 : (8 * n - (k1 + k2)).toInt32 < (8 : Int32)
  · refine own_by (fun t kk_ => XS.icmpNo X0.here hx rfl (hb hby at_175) rfl (tlt hb175_1).2.1 kk_) ?_
    show OwnG p e below s _ _ _ (T0.setTop (mkF m 178 #[.val (.int a), .val (.int b), .val (.int c0), .val (.int d), .val (.int n.toInt32), .val (.int (8 * n).toInt32), .val (.ref ab), .val (.int k1.toInt32), .val (.int k2.toInt32), .val (.ref ob), .val (.int pd), .val (.int (8 * n - (k1 + k2)).toInt32), .val (.long sm), .second, .val (.long (own_rest b n (k1 + k2))), .second, .unset] []))
    refine own_by (fun t kk_ => XS.lload X0.here hx rfl (hb hby at_178) rfl  kk_) ?_
    show OwnG p e below s _ _ _ (T0.setTop (mkF m 180 #[.val (.int a), .val (.int b), .val (.int c0), .val (.int d), .val (.int n.toInt32), .val (.int (8 * n).toInt32), .val (.ref ab), .val (.int k1.toInt32), .val (.int k2.toInt32), .val (.ref ob), .val (.int pd), .val (.int (8 * n - (k1 + k2)).toInt32), .val (.long sm), .second, .val (.long (own_rest b n (k1 + k2))), .second, .unset] [(.long (own_rest b n (k1 + k2)))]))
    refine own_by (fun t kk_ => XS.lconst X0.here hx rfl (hb hby at_180) kk_) ?_
    show OwnG p e below s _ _ _ (T0.setTop (mkF m 181 #[.val (.int a), .val (.int b), .val (.int c0), .val (.int d), .val (.int n.toInt32), .val (.int (8 * n).toInt32), .val (.ref ab), .val (.int k1.toInt32), .val (.int k2.toInt32), .val (.ref ob), .val (.int pd), .val (.int (8 * n - (k1 + k2)).toInt32), .val (.long sm), .second, .val (.long (own_rest b n (k1 + k2))), .second, .unset] [(.long (0 : Int64)), (.long (own_rest b n (k1 + k2)))]))
    refine own_by (fun t kk_ => XS.lcmp X0.here hx rfl (hb hby at_181) rfl kk_) ?_
    show OwnG p e below s _ _ _ (T0.setTop (mkF m 182 #[.val (.int a), .val (.int b), .val (.int c0), .val (.int d), .val (.int n.toInt32), .val (.int (8 * n).toInt32), .val (.ref ab), .val (.int k1.toInt32), .val (.int k2.toInt32), .val (.ref ob), .val (.int pd), .val (.int (8 * n - (k1 + k2)).toInt32), .val (.long sm), .second, .val (.long (own_rest b n (k1 + k2))), .second, .unset] [(.int (lcmpW (own_rest b n (k1 + k2)) (0 : Int64)))]))
    by_cases hb182_2 : (own_rest b n (k1 + k2)) = (0 : Int64)
    · refine own_by (fun t kk_ => XS.ifNo X0.here hx rfl (hb hby at_182) rfl ((if0 _ _).trans (teq ((lw_eq _ _).mpr hb182_2)).2) kk_) ?_
      show OwnG p e below s _ _ _ (T0.setTop (mkF m 185 #[.val (.int a), .val (.int b), .val (.int c0), .val (.int d), .val (.int n.toInt32), .val (.int (8 * n).toInt32), .val (.ref ab), .val (.int k1.toInt32), .val (.int k2.toInt32), .val (.ref ob), .val (.int pd), .val (.int (8 * n - (k1 + k2)).toInt32), .val (.long sm), .second, .val (.long (own_rest b n (k1 + k2))), .second, .unset] []))
      refine own_by (fun t kk_ => XS.iconst X0.here hx rfl (hb hby at_185) kk_) ?_
      show OwnG p e below s _ _ _ (T0.setTop (mkF m 186 #[.val (.int a), .val (.int b), .val (.int c0), .val (.int d), .val (.int n.toInt32), .val (.int (8 * n).toInt32), .val (.ref ab), .val (.int k1.toInt32), .val (.int k2.toInt32), .val (.ref ob), .val (.int pd), .val (.int (8 * n - (k1 + k2)).toInt32), .val (.long sm), .second, .val (.long (own_rest b n (k1 + k2))), .second, .unset] [(.int (1 : Int32))]))
      refine own_by (fun t kk_ => XS.goto X0.here hx rfl (pc0 := 186) (pc' := 190) rfl (hb hby at_186) (by decide) (by decide) kk_) ?_
      show OwnG p e below s _ _ _ (T0.setTop (mkF m 190 #[.val (.int a), .val (.int b), .val (.int c0), .val (.int d), .val (.int n.toInt32), .val (.int (8 * n).toInt32), .val (.ref ab), .val (.int k1.toInt32), .val (.int k2.toInt32), .val (.ref ob), .val (.int pd), .val (.int (8 * n - (k1 + k2)).toInt32), .val (.long sm), .second, .val (.long (own_rest b n (k1 + k2))), .second, .unset] [(.int (1 : Int32))]))
      refine own_by (fun t kk_ => XS.istore X0.here hx rfl (hb hby at_190) rfl (l' := #[.val (.int a), .val (.int b), .val (.int c0), .val (.int d), .val (.int n.toInt32), .val (.int (8 * n).toInt32), .val (.ref ab), .val (.int k1.toInt32), .val (.int k2.toInt32), .val (.ref ob), .val (.int pd), .val (.int (8 * n - (k1 + k2)).toInt32), .val (.long sm), .second, .val (.long (own_rest b n (k1 + k2))), .second, .val (.int (1 : Int32))]) rfl kk_) ?_
      show OwnG p e below s _ _ _ (T0.setTop (mkF m 192 #[.val (.int a), .val (.int b), .val (.int c0), .val (.int d), .val (.int n.toInt32), .val (.int (8 * n).toInt32), .val (.ref ab), .val (.int k1.toInt32), .val (.int k2.toInt32), .val (.ref ob), .val (.int pd), .val (.int (8 * n - (k1 + k2)).toInt32), .val (.long sm), .second, .val (.long (own_rest b n (k1 + k2))), .second, .val (.int (1 : Int32))] []))
      refine own_by (fun t kk_ => XS.iload X0.here hx rfl (hb hby at_192) rfl  kk_) ?_
      show OwnG p e below s _ _ _ (T0.setTop (mkF m 194 #[.val (.int a), .val (.int b), .val (.int c0), .val (.int d), .val (.int n.toInt32), .val (.int (8 * n).toInt32), .val (.ref ab), .val (.int k1.toInt32), .val (.int k2.toInt32), .val (.ref ob), .val (.int pd), .val (.int (8 * n - (k1 + k2)).toInt32), .val (.long sm), .second, .val (.long (own_rest b n (k1 + k2))), .second, .val (.int (1 : Int32))] [(.int pd)]))
      refine own_by (fun t kk_ => XS.iload X0.here hx rfl (hb hby at_194) rfl  kk_) ?_
      show OwnG p e below s _ _ _ (T0.setTop (mkF m 196 #[.val (.int a), .val (.int b), .val (.int c0), .val (.int d), .val (.int n.toInt32), .val (.int (8 * n).toInt32), .val (.ref ab), .val (.int k1.toInt32), .val (.int k2.toInt32), .val (.ref ob), .val (.int pd), .val (.int (8 * n - (k1 + k2)).toInt32), .val (.long sm), .second, .val (.long (own_rest b n (k1 + k2))), .second, .val (.int (1 : Int32))] [(.int (1 : Int32)), (.int pd)]))
      refine own_by (fun t kk_ => XS.icmpNo X0.here hx rfl (hb hby at_196) rfl (teq (by rw [hp]; exact own_fin1 hk hn4 hb175_1 hb182_2)).2 kk_) ?_
      show OwnG p e below s _ _ _ (T0.setTop (mkF m 199 #[.val (.int a), .val (.int b), .val (.int c0), .val (.int d), .val (.int n.toInt32), .val (.int (8 * n).toInt32), .val (.ref ab), .val (.int k1.toInt32), .val (.int k2.toInt32), .val (.ref ob), .val (.int pd), .val (.int (8 * n - (k1 + k2)).toInt32), .val (.long sm), .second, .val (.long (own_rest b n (k1 + k2))), .second, .val (.int (1 : Int32))] []))
      refine own_by (fun t kk_ => XS.iconst X0.here hx rfl (hb hby at_199) kk_) ?_
      show OwnG p e below s _ _ _ (T0.setTop (mkF m 200 #[.val (.int a), .val (.int b), .val (.int c0), .val (.int d), .val (.int n.toInt32), .val (.int (8 * n).toInt32), .val (.ref ab), .val (.int k1.toInt32), .val (.int k2.toInt32), .val (.ref ob), .val (.int pd), .val (.int (8 * n - (k1 + k2)).toInt32), .val (.long sm), .second, .val (.long (own_rest b n (k1 + k2))), .second, .val (.int (1 : Int32))] [(.int (1 : Int32))]))
      refine own_by (fun t kk_ => XS.goto X0.here hx rfl (pc0 := 200) (pc' := 204) rfl (hb hby at_200) (by decide) (by decide) kk_) ?_
      show OwnG p e below s _ _ _ (T0.setTop (mkF m 204 #[.val (.int a), .val (.int b), .val (.int c0), .val (.int d), .val (.int n.toInt32), .val (.int (8 * n).toInt32), .val (.ref ab), .val (.int k1.toInt32), .val (.int k2.toInt32), .val (.ref ob), .val (.int pd), .val (.int (8 * n - (k1 + k2)).toInt32), .val (.long sm), .second, .val (.long (own_rest b n (k1 + k2))), .second, .val (.int (1 : Int32))] [(.int (1 : Int32))]))
      exact own_outN X0 hx hret (by simp) hlk (hb hby at_204) rfl (⟨rfl, N0⟩) (by decide) (by decide)
    · refine own_by (fun t kk_ => XS.ifYes X0.here hx rfl (pc0 := 182) (pc' := 189) rfl (hb hby at_182) rfl ((if0 _ _).trans (feq (fun q => hb182_2 ((lw_eq _ _).mp q))).2) (by decide) (by decide) kk_) ?_
      show OwnG p e below s _ _ _ (T0.setTop (mkF m 189 #[.val (.int a), .val (.int b), .val (.int c0), .val (.int d), .val (.int n.toInt32), .val (.int (8 * n).toInt32), .val (.ref ab), .val (.int k1.toInt32), .val (.int k2.toInt32), .val (.ref ob), .val (.int pd), .val (.int (8 * n - (k1 + k2)).toInt32), .val (.long sm), .second, .val (.long (own_rest b n (k1 + k2))), .second, .unset] []))
      refine own_by (fun t kk_ => XS.iconst X0.here hx rfl (hb hby at_189) kk_) ?_
      show OwnG p e below s _ _ _ (T0.setTop (mkF m 190 #[.val (.int a), .val (.int b), .val (.int c0), .val (.int d), .val (.int n.toInt32), .val (.int (8 * n).toInt32), .val (.ref ab), .val (.int k1.toInt32), .val (.int k2.toInt32), .val (.ref ob), .val (.int pd), .val (.int (8 * n - (k1 + k2)).toInt32), .val (.long sm), .second, .val (.long (own_rest b n (k1 + k2))), .second, .unset] [(.int (0 : Int32))]))
      refine own_by (fun t kk_ => XS.istore X0.here hx rfl (hb hby at_190) rfl (l' := #[.val (.int a), .val (.int b), .val (.int c0), .val (.int d), .val (.int n.toInt32), .val (.int (8 * n).toInt32), .val (.ref ab), .val (.int k1.toInt32), .val (.int k2.toInt32), .val (.ref ob), .val (.int pd), .val (.int (8 * n - (k1 + k2)).toInt32), .val (.long sm), .second, .val (.long (own_rest b n (k1 + k2))), .second, .val (.int (0 : Int32))]) rfl kk_) ?_
      show OwnG p e below s _ _ _ (T0.setTop (mkF m 192 #[.val (.int a), .val (.int b), .val (.int c0), .val (.int d), .val (.int n.toInt32), .val (.int (8 * n).toInt32), .val (.ref ab), .val (.int k1.toInt32), .val (.int k2.toInt32), .val (.ref ob), .val (.int pd), .val (.int (8 * n - (k1 + k2)).toInt32), .val (.long sm), .second, .val (.long (own_rest b n (k1 + k2))), .second, .val (.int (0 : Int32))] []))
      refine own_by (fun t kk_ => XS.iload X0.here hx rfl (hb hby at_192) rfl  kk_) ?_
      show OwnG p e below s _ _ _ (T0.setTop (mkF m 194 #[.val (.int a), .val (.int b), .val (.int c0), .val (.int d), .val (.int n.toInt32), .val (.int (8 * n).toInt32), .val (.ref ab), .val (.int k1.toInt32), .val (.int k2.toInt32), .val (.ref ob), .val (.int pd), .val (.int (8 * n - (k1 + k2)).toInt32), .val (.long sm), .second, .val (.long (own_rest b n (k1 + k2))), .second, .val (.int (0 : Int32))] [(.int pd)]))
      refine own_by (fun t kk_ => XS.iload X0.here hx rfl (hb hby at_194) rfl  kk_) ?_
      show OwnG p e below s _ _ _ (T0.setTop (mkF m 196 #[.val (.int a), .val (.int b), .val (.int c0), .val (.int d), .val (.int n.toInt32), .val (.int (8 * n).toInt32), .val (.ref ab), .val (.int k1.toInt32), .val (.int k2.toInt32), .val (.ref ob), .val (.int pd), .val (.int (8 * n - (k1 + k2)).toInt32), .val (.long sm), .second, .val (.long (own_rest b n (k1 + k2))), .second, .val (.int (0 : Int32))] [(.int (0 : Int32)), (.int pd)]))
      refine own_by (fun t kk_ => XS.icmpNo X0.here hx rfl (hb hby at_196) rfl (teq (by rw [hp]; exact own_fin0b hk hn4 hb175_1 hb182_2)).2 kk_) ?_
      show OwnG p e below s _ _ _ (T0.setTop (mkF m 199 #[.val (.int a), .val (.int b), .val (.int c0), .val (.int d), .val (.int n.toInt32), .val (.int (8 * n).toInt32), .val (.ref ab), .val (.int k1.toInt32), .val (.int k2.toInt32), .val (.ref ob), .val (.int pd), .val (.int (8 * n - (k1 + k2)).toInt32), .val (.long sm), .second, .val (.long (own_rest b n (k1 + k2))), .second, .val (.int (0 : Int32))] []))
      refine own_by (fun t kk_ => XS.iconst X0.here hx rfl (hb hby at_199) kk_) ?_
      show OwnG p e below s _ _ _ (T0.setTop (mkF m 200 #[.val (.int a), .val (.int b), .val (.int c0), .val (.int d), .val (.int n.toInt32), .val (.int (8 * n).toInt32), .val (.ref ab), .val (.int k1.toInt32), .val (.int k2.toInt32), .val (.ref ob), .val (.int pd), .val (.int (8 * n - (k1 + k2)).toInt32), .val (.long sm), .second, .val (.long (own_rest b n (k1 + k2))), .second, .val (.int (0 : Int32))] [(.int (1 : Int32))]))
      refine own_by (fun t kk_ => XS.goto X0.here hx rfl (pc0 := 200) (pc' := 204) rfl (hb hby at_200) (by decide) (by decide) kk_) ?_
      show OwnG p e below s _ _ _ (T0.setTop (mkF m 204 #[.val (.int a), .val (.int b), .val (.int c0), .val (.int d), .val (.int n.toInt32), .val (.int (8 * n).toInt32), .val (.ref ab), .val (.int k1.toInt32), .val (.int k2.toInt32), .val (.ref ob), .val (.int pd), .val (.int (8 * n - (k1 + k2)).toInt32), .val (.long sm), .second, .val (.long (own_rest b n (k1 + k2))), .second, .val (.int (0 : Int32))] [(.int (1 : Int32))]))
      exact own_outN X0 hx hret (by simp) hlk (hb hby at_204) rfl (⟨rfl, N0⟩) (by decide) (by decide)
  · refine own_by (fun t kk_ => XS.icmpYes X0.here hx rfl (pc0 := 175) (pc' := 189) rfl (hb hby at_175) rfl (flt hb175_1).2.1 (by decide) (by decide) kk_) ?_
    show OwnG p e below s _ _ _ (T0.setTop (mkF m 189 #[.val (.int a), .val (.int b), .val (.int c0), .val (.int d), .val (.int n.toInt32), .val (.int (8 * n).toInt32), .val (.ref ab), .val (.int k1.toInt32), .val (.int k2.toInt32), .val (.ref ob), .val (.int pd), .val (.int (8 * n - (k1 + k2)).toInt32), .val (.long sm), .second, .val (.long (own_rest b n (k1 + k2))), .second, .unset] []))
    refine own_by (fun t kk_ => XS.iconst X0.here hx rfl (hb hby at_189) kk_) ?_
    show OwnG p e below s _ _ _ (T0.setTop (mkF m 190 #[.val (.int a), .val (.int b), .val (.int c0), .val (.int d), .val (.int n.toInt32), .val (.int (8 * n).toInt32), .val (.ref ab), .val (.int k1.toInt32), .val (.int k2.toInt32), .val (.ref ob), .val (.int pd), .val (.int (8 * n - (k1 + k2)).toInt32), .val (.long sm), .second, .val (.long (own_rest b n (k1 + k2))), .second, .unset] [(.int (0 : Int32))]))
    refine own_by (fun t kk_ => XS.istore X0.here hx rfl (hb hby at_190) rfl (l' := #[.val (.int a), .val (.int b), .val (.int c0), .val (.int d), .val (.int n.toInt32), .val (.int (8 * n).toInt32), .val (.ref ab), .val (.int k1.toInt32), .val (.int k2.toInt32), .val (.ref ob), .val (.int pd), .val (.int (8 * n - (k1 + k2)).toInt32), .val (.long sm), .second, .val (.long (own_rest b n (k1 + k2))), .second, .val (.int (0 : Int32))]) rfl kk_) ?_
    show OwnG p e below s _ _ _ (T0.setTop (mkF m 192 #[.val (.int a), .val (.int b), .val (.int c0), .val (.int d), .val (.int n.toInt32), .val (.int (8 * n).toInt32), .val (.ref ab), .val (.int k1.toInt32), .val (.int k2.toInt32), .val (.ref ob), .val (.int pd), .val (.int (8 * n - (k1 + k2)).toInt32), .val (.long sm), .second, .val (.long (own_rest b n (k1 + k2))), .second, .val (.int (0 : Int32))] []))
    refine own_by (fun t kk_ => XS.iload X0.here hx rfl (hb hby at_192) rfl  kk_) ?_
    show OwnG p e below s _ _ _ (T0.setTop (mkF m 194 #[.val (.int a), .val (.int b), .val (.int c0), .val (.int d), .val (.int n.toInt32), .val (.int (8 * n).toInt32), .val (.ref ab), .val (.int k1.toInt32), .val (.int k2.toInt32), .val (.ref ob), .val (.int pd), .val (.int (8 * n - (k1 + k2)).toInt32), .val (.long sm), .second, .val (.long (own_rest b n (k1 + k2))), .second, .val (.int (0 : Int32))] [(.int pd)]))
    refine own_by (fun t kk_ => XS.iload X0.here hx rfl (hb hby at_194) rfl  kk_) ?_
    show OwnG p e below s _ _ _ (T0.setTop (mkF m 196 #[.val (.int a), .val (.int b), .val (.int c0), .val (.int d), .val (.int n.toInt32), .val (.int (8 * n).toInt32), .val (.ref ab), .val (.int k1.toInt32), .val (.int k2.toInt32), .val (.ref ob), .val (.int pd), .val (.int (8 * n - (k1 + k2)).toInt32), .val (.long sm), .second, .val (.long (own_rest b n (k1 + k2))), .second, .val (.int (0 : Int32))] [(.int (0 : Int32)), (.int pd)]))
    refine own_by (fun t kk_ => XS.icmpNo X0.here hx rfl (hb hby at_196) rfl (teq (by rw [hp]; exact own_fin0 hk hn4 hb175_1)).2 kk_) ?_
    show OwnG p e below s _ _ _ (T0.setTop (mkF m 199 #[.val (.int a), .val (.int b), .val (.int c0), .val (.int d), .val (.int n.toInt32), .val (.int (8 * n).toInt32), .val (.ref ab), .val (.int k1.toInt32), .val (.int k2.toInt32), .val (.ref ob), .val (.int pd), .val (.int (8 * n - (k1 + k2)).toInt32), .val (.long sm), .second, .val (.long (own_rest b n (k1 + k2))), .second, .val (.int (0 : Int32))] []))
    refine own_by (fun t kk_ => XS.iconst X0.here hx rfl (hb hby at_199) kk_) ?_
    show OwnG p e below s _ _ _ (T0.setTop (mkF m 200 #[.val (.int a), .val (.int b), .val (.int c0), .val (.int d), .val (.int n.toInt32), .val (.int (8 * n).toInt32), .val (.ref ab), .val (.int k1.toInt32), .val (.int k2.toInt32), .val (.ref ob), .val (.int pd), .val (.int (8 * n - (k1 + k2)).toInt32), .val (.long sm), .second, .val (.long (own_rest b n (k1 + k2))), .second, .val (.int (0 : Int32))] [(.int (1 : Int32))]))
    refine own_by (fun t kk_ => XS.goto X0.here hx rfl (pc0 := 200) (pc' := 204) rfl (hb hby at_200) (by decide) (by decide) kk_) ?_
    show OwnG p e below s _ _ _ (T0.setTop (mkF m 204 #[.val (.int a), .val (.int b), .val (.int c0), .val (.int d), .val (.int n.toInt32), .val (.int (8 * n).toInt32), .val (.ref ab), .val (.int k1.toInt32), .val (.int k2.toInt32), .val (.ref ob), .val (.int pd), .val (.int (8 * n - (k1 + k2)).toInt32), .val (.long sm), .second, .val (.long (own_rest b n (k1 + k2))), .second, .val (.int (0 : Int32))] [(.int (1 : Int32))]))
    exact own_outN X0 hx hret (by simp) hlk (hb hby at_204) rfl (⟨rfl, N0⟩) (by decide) (by decide)
set_option maxRecDepth 65536 in
set_option maxHeartbeats 40000000 in
theorem own_mid {p : Program} {l : Launch} {e : Env} {s : State} {m : MethodId} {args : Array Value} {below : List Frame} {meth : Method} {c : Code} {T0 : State} {locs : List Loc} {Z : State} {a0 : Array Value} {h0 : Heap} {n0 : Nat} (a b c0 d : Int32) (n : Nat) (ab : Addr) (X0 : Stand p l e room_1 s m args below meth c T0 locs (0 + 1) (0 + 4)) (hx : p.tables.exec = Jvm.exec) (hby : c.code = code) (hml : c.maxLocals = 17) (hret : meth.sig.returnType = some .boolean) (hlk : meth.locks = false) (hown : s.vm.findClass "com/example/iota_ranker/iotaranker/index/BitInputAtPaddingPinLaw" = some m.cls) (hnm : meth.name = "law") (hZ : Z.Warmed39 s.vm) (hw : ∀ d ∈ tables_1, d.before a0 Z = true) (e0 : T0.heap = h0) (N0 : Fr n0 locs) (Z0 : n0 ≤ h0.size) (Ab : OwnA Z h0 ab .byte n (fun i => .int (own_b b i))) (g2 : n0 ≤ ab) (hn4 : n ≤ 4) :
    OwnG p e below s (fun v h L => v = some (.int (1 : Int32)) ∧ Fr n0 L) room_1.cells room_1.slots (T0.setTop (mkF m 77 #[.val (.int a), .val (.int b), .val (.int c0), .val (.int d), .val (.int n.toInt32), .val (.int (8 * n).toInt32), .val (.ref ab), .unset, .unset, .unset, .unset, .unset, .unset, .unset, .unset, .unset, .unset] [])) := by
  show OwnG p e below s _ _ _ (T0.setTop (mkF m 77 #[.val (.int a), .val (.int b), .val (.int c0), .val (.int d), .val (.int n.toInt32), .val (.int (8 * n).toInt32), .val (.ref ab), .unset, .unset, .unset, .unset, .unset, .unset, .unset, .unset, .unset, .unset] []))
  refine own_by (fun t kk_ => XS.iloadN X0.here hx rfl (hb hby at_77) rfl  kk_) ?_
  show OwnG p e below s _ _ _ (T0.setTop (mkF m 78 #[.val (.int a), .val (.int b), .val (.int c0), .val (.int d), .val (.int n.toInt32), .val (.int (8 * n).toInt32), .val (.ref ab), .unset, .unset, .unset, .unset, .unset, .unset, .unset, .unset, .unset, .unset] [(.int c0)]))
  refine own_by (fun t kk_ => X0.ldcInt hx hown (mvT hZ (hw _ (List.mem_of_getElem? (i := 0) rfl))) (g := (mkF m 78 #[.val (.int a), .val (.int b), .val (.int c0), .val (.int d), .val (.int n.toInt32), .val (.int (8 * n).toInt32), .val (.ref ab), .unset, .unset, .unset, .unset, .unset, .unset, .unset, .unset, .unset, .unset] [(.int c0)])) rfl (hb hby at_78) _ kk_) ?_
  show OwnG p e below s _ _ _ (T0.setTop (mkF m 80 #[.val (.int a), .val (.int b), .val (.int c0), .val (.int d), .val (.int n.toInt32), .val (.int (8 * n).toInt32), .val (.ref ab), .unset, .unset, .unset, .unset, .unset, .unset, .unset, .unset, .unset, .unset] [(.int (2147483647 : Int32)), (.int c0)]))
  refine own_by (fun t kk_ => XS.iand X0.here hx rfl (hb hby at_80) rfl kk_) ?_
  show OwnG p e below s _ _ _ (T0.setTop (mkF m 81 #[.val (.int a), .val (.int b), .val (.int c0), .val (.int d), .val (.int n.toInt32), .val (.int (8 * n).toInt32), .val (.ref ab), .unset, .unset, .unset, .unset, .unset, .unset, .unset, .unset, .unset, .unset] [(.int (c0 &&& (2147483647 : Int32)))]))
  refine own_by (fun t kk_ => XS.iload X0.here hx rfl (hb hby at_81) rfl  kk_) ?_
  show OwnG p e below s _ _ _ (T0.setTop (mkF m 83 #[.val (.int a), .val (.int b), .val (.int c0), .val (.int d), .val (.int n.toInt32), .val (.int (8 * n).toInt32), .val (.ref ab), .unset, .unset, .unset, .unset, .unset, .unset, .unset, .unset, .unset, .unset] [(.int (8 * n).toInt32), (.int (c0 &&& (2147483647 : Int32)))]))
  refine own_by (fun t kk_ => XS.iconst X0.here hx rfl (hb hby at_83) kk_) ?_
  show OwnG p e below s _ _ _ (T0.setTop (mkF m 84 #[.val (.int a), .val (.int b), .val (.int c0), .val (.int d), .val (.int n.toInt32), .val (.int (8 * n).toInt32), .val (.ref ab), .unset, .unset, .unset, .unset, .unset, .unset, .unset, .unset, .unset, .unset] [(.int (1 : Int32)), (.int (8 * n).toInt32), (.int (c0 &&& (2147483647 : Int32)))]))
  refine own_by (fun t kk_ => XS.iadd X0.here hx rfl (hb hby at_84) rfl kk_) ?_
  show OwnG p e below s _ _ _ (T0.setTop (mkF m 85 #[.val (.int a), .val (.int b), .val (.int c0), .val (.int d), .val (.int n.toInt32), .val (.int (8 * n).toInt32), .val (.ref ab), .unset, .unset, .unset, .unset, .unset, .unset, .unset, .unset, .unset, .unset] [(.int ((8 * n).toInt32 + (1 : Int32))), (.int (c0 &&& (2147483647 : Int32)))]))
  refine own_by (fun t kk_ => XS.irem X0.here hx rfl (hb hby at_85) rfl (own_nzT (by omega)) kk_) ?_
  show OwnG p e below s _ _ _ (T0.setTop (mkF m 86 #[.val (.int a), .val (.int b), .val (.int c0), .val (.int d), .val (.int n.toInt32), .val (.int (8 * n).toInt32), .val (.ref ab), .unset, .unset, .unset, .unset, .unset, .unset, .unset, .unset, .unset, .unset] [(.int ((c0 &&& (2147483647 : Int32)) - ((c0 &&& (2147483647 : Int32)) / ((8 * n).toInt32 + (1 : Int32))) * ((8 * n).toInt32 + (1 : Int32))))]))
  obtain ⟨k1, hle_k1, he_k1⟩ := own_rem c0 _ (8 * n) (by omega) (own_i1 _)
  rw [he_k1]
  show OwnG p e below s _ _ _ (T0.setTop (mkF m 86 #[.val (.int a), .val (.int b), .val (.int c0), .val (.int d), .val (.int n.toInt32), .val (.int (8 * n).toInt32), .val (.ref ab), .unset, .unset, .unset, .unset, .unset, .unset, .unset, .unset, .unset, .unset] [(.int k1.toInt32)]))
  refine own_by (fun t kk_ => XS.istore X0.here hx rfl (hb hby at_86) rfl (l' := #[.val (.int a), .val (.int b), .val (.int c0), .val (.int d), .val (.int n.toInt32), .val (.int (8 * n).toInt32), .val (.ref ab), .val (.int k1.toInt32), .unset, .unset, .unset, .unset, .unset, .unset, .unset, .unset, .unset]) rfl kk_) ?_
  show OwnG p e below s _ _ _ (T0.setTop (mkF m 88 #[.val (.int a), .val (.int b), .val (.int c0), .val (.int d), .val (.int n.toInt32), .val (.int (8 * n).toInt32), .val (.ref ab), .val (.int k1.toInt32), .unset, .unset, .unset, .unset, .unset, .unset, .unset, .unset, .unset] []))
  refine own_by (fun t kk_ => XS.iloadN X0.here hx rfl (hb hby at_88) rfl  kk_) ?_
  show OwnG p e below s _ _ _ (T0.setTop (mkF m 89 #[.val (.int a), .val (.int b), .val (.int c0), .val (.int d), .val (.int n.toInt32), .val (.int (8 * n).toInt32), .val (.ref ab), .val (.int k1.toInt32), .unset, .unset, .unset, .unset, .unset, .unset, .unset, .unset, .unset] [(.int d)]))
  refine own_by (fun t kk_ => X0.ldcInt hx hown (mvT hZ (hw _ (List.mem_of_getElem? (i := 0) rfl))) (g := (mkF m 89 #[.val (.int a), .val (.int b), .val (.int c0), .val (.int d), .val (.int n.toInt32), .val (.int (8 * n).toInt32), .val (.ref ab), .val (.int k1.toInt32), .unset, .unset, .unset, .unset, .unset, .unset, .unset, .unset, .unset] [(.int d)])) rfl (hb hby at_89) _ kk_) ?_
  show OwnG p e below s _ _ _ (T0.setTop (mkF m 91 #[.val (.int a), .val (.int b), .val (.int c0), .val (.int d), .val (.int n.toInt32), .val (.int (8 * n).toInt32), .val (.ref ab), .val (.int k1.toInt32), .unset, .unset, .unset, .unset, .unset, .unset, .unset, .unset, .unset] [(.int (2147483647 : Int32)), (.int d)]))
  refine own_by (fun t kk_ => XS.iand X0.here hx rfl (hb hby at_91) rfl kk_) ?_
  show OwnG p e below s _ _ _ (T0.setTop (mkF m 92 #[.val (.int a), .val (.int b), .val (.int c0), .val (.int d), .val (.int n.toInt32), .val (.int (8 * n).toInt32), .val (.ref ab), .val (.int k1.toInt32), .unset, .unset, .unset, .unset, .unset, .unset, .unset, .unset, .unset] [(.int (d &&& (2147483647 : Int32)))]))
  refine own_by (fun t kk_ => XS.iload X0.here hx rfl (hb hby at_92) rfl  kk_) ?_
  show OwnG p e below s _ _ _ (T0.setTop (mkF m 94 #[.val (.int a), .val (.int b), .val (.int c0), .val (.int d), .val (.int n.toInt32), .val (.int (8 * n).toInt32), .val (.ref ab), .val (.int k1.toInt32), .unset, .unset, .unset, .unset, .unset, .unset, .unset, .unset, .unset] [(.int (8 * n).toInt32), (.int (d &&& (2147483647 : Int32)))]))
  refine own_by (fun t kk_ => XS.iload X0.here hx rfl (hb hby at_94) rfl  kk_) ?_
  show OwnG p e below s _ _ _ (T0.setTop (mkF m 96 #[.val (.int a), .val (.int b), .val (.int c0), .val (.int d), .val (.int n.toInt32), .val (.int (8 * n).toInt32), .val (.ref ab), .val (.int k1.toInt32), .unset, .unset, .unset, .unset, .unset, .unset, .unset, .unset, .unset] [(.int k1.toInt32), (.int (8 * n).toInt32), (.int (d &&& (2147483647 : Int32)))]))
  refine own_by (fun t kk_ => XS.isub X0.here hx rfl (hb hby at_96) rfl kk_) ?_
  show OwnG p e below s _ _ _ (T0.setTop (mkF m 97 #[.val (.int a), .val (.int b), .val (.int c0), .val (.int d), .val (.int n.toInt32), .val (.int (8 * n).toInt32), .val (.ref ab), .val (.int k1.toInt32), .unset, .unset, .unset, .unset, .unset, .unset, .unset, .unset, .unset] [(.int ((8 * n).toInt32 - k1.toInt32)), (.int (d &&& (2147483647 : Int32)))]))
  refine own_by (fun t kk_ => XS.iconst X0.here hx rfl (hb hby at_97) kk_) ?_
  show OwnG p e below s _ _ _ (T0.setTop (mkF m 98 #[.val (.int a), .val (.int b), .val (.int c0), .val (.int d), .val (.int n.toInt32), .val (.int (8 * n).toInt32), .val (.ref ab), .val (.int k1.toInt32), .unset, .unset, .unset, .unset, .unset, .unset, .unset, .unset, .unset] [(.int (1 : Int32)), (.int ((8 * n).toInt32 - k1.toInt32)), (.int (d &&& (2147483647 : Int32)))]))
  refine own_by (fun t kk_ => XS.iadd X0.here hx rfl (hb hby at_98) rfl kk_) ?_
  show OwnG p e below s _ _ _ (T0.setTop (mkF m 99 #[.val (.int a), .val (.int b), .val (.int c0), .val (.int d), .val (.int n.toInt32), .val (.int (8 * n).toInt32), .val (.ref ab), .val (.int k1.toInt32), .unset, .unset, .unset, .unset, .unset, .unset, .unset, .unset, .unset] [(.int (((8 * n).toInt32 - k1.toInt32) + (1 : Int32))), (.int (d &&& (2147483647 : Int32)))]))
  refine own_by (fun t kk_ => XS.irem X0.here hx rfl (hb hby at_99) rfl (own_nzT2 (by omega) (by omega)) kk_) ?_
  show OwnG p e below s _ _ _ (T0.setTop (mkF m 100 #[.val (.int a), .val (.int b), .val (.int c0), .val (.int d), .val (.int n.toInt32), .val (.int (8 * n).toInt32), .val (.ref ab), .val (.int k1.toInt32), .unset, .unset, .unset, .unset, .unset, .unset, .unset, .unset, .unset] [(.int ((d &&& (2147483647 : Int32)) - ((d &&& (2147483647 : Int32)) / (((8 * n).toInt32 - k1.toInt32) + (1 : Int32))) * (((8 * n).toInt32 - k1.toInt32) + (1 : Int32))))]))
  obtain ⟨k2, hle_k2, he_k2⟩ := own_rem d _ (8 * n - k1) (by omega) (own_tk (by omega) (by omega))
  rw [he_k2]
  show OwnG p e below s _ _ _ (T0.setTop (mkF m 100 #[.val (.int a), .val (.int b), .val (.int c0), .val (.int d), .val (.int n.toInt32), .val (.int (8 * n).toInt32), .val (.ref ab), .val (.int k1.toInt32), .unset, .unset, .unset, .unset, .unset, .unset, .unset, .unset, .unset] [(.int k2.toInt32)]))
  refine own_by (fun t kk_ => XS.istore X0.here hx rfl (hb hby at_100) rfl (l' := #[.val (.int a), .val (.int b), .val (.int c0), .val (.int d), .val (.int n.toInt32), .val (.int (8 * n).toInt32), .val (.ref ab), .val (.int k1.toInt32), .val (.int k2.toInt32), .unset, .unset, .unset, .unset, .unset, .unset, .unset, .unset]) rfl kk_) ?_
  show OwnG p e below s _ _ _ (T0.setTop (mkF m 102 #[.val (.int a), .val (.int b), .val (.int c0), .val (.int d), .val (.int n.toInt32), .val (.int (8 * n).toInt32), .val (.ref ab), .val (.int k1.toInt32), .val (.int k2.toInt32), .unset, .unset, .unset, .unset, .unset, .unset, .unset, .unset] []))
  obtain ⟨T1, h1, X1, e1, E1, A1, D1, -, st1⟩ := newO X0 hx hZ hown (hw _ (List.mem_of_getElem? (i := 2) rfl)) (hw _ (List.mem_of_getElem? (i := 3) rfl)) (hw _ (List.mem_of_getElem? (i := 4) rfl)) e0 (g := (mkF m 102 #[.val (.int a), .val (.int b), .val (.int c0), .val (.int d), .val (.int n.toInt32), .val (.int (8 * n).toInt32), .val (.ref ab), .val (.int k1.toInt32), .val (.int k2.toInt32), .unset, .unset, .unset, .unset, .unset, .unset, .unset, .unset] [])) rfl (hb hby at_102) (by decide) (by decide)
  obtain ⟨ob, g1⟩ : ∃ z, z = h0.size := ⟨_, rfl⟩
  rw [← g1] at A1 D1 st1
  have ne2 : ab ≠ ob := fun q => absurd Ab.lt (by rw [q, g1]; exact Nat.lt_irrefl _)
  have gg_ob : n0 ≤ ob := by rw [g1]; exact Z0
  have sz1 : n0 ≤ h1.size := Nat.le_trans Z0 E1.1
  refine own_by (fun t kk_ => st1 _ kk_) ?_
  have f3 := OwnA.ext E1 Ab
  have f4 : Fld Z h1 ob "com/example/iota_ranker/iotaranker/index/BitInput" "bytes" "[B" .null := D1 (Or.inr (hw _ (List.mem_of_getElem? (i := 12) rfl))) (ty := (.array .byte)) (by decide)
  have f5 : Fld Z h1 ob "com/example/iota_ranker/iotaranker/index/BitInput" "next" "I" (.int (0 : Int32)) := D1 (Or.inl (hw _ (List.mem_of_getElem? (i := 24) rfl))) (ty := .int) (by decide)
  have f6 : Fld Z h1 ob "com/example/iota_ranker/iotaranker/index/BitInput" "loadedBits" "I" (.int (0 : Int32)) := D1 (Or.inl (hw _ (List.mem_of_getElem? (i := 26) rfl))) (ty := .int) (by decide)
  have f7 : Fld Z h1 ob "com/example/iota_ranker/iotaranker/index/BitInput" "loaded" "J" (.long (0 : Int64)) := D1 (Or.inl (hw _ (List.mem_of_getElem? (i := 28) rfl))) (ty := .long) (by decide)
  show OwnG p e below s _ _ _ (T1.setTop (mkF m 105 #[.val (.int a), .val (.int b), .val (.int c0), .val (.int d), .val (.int n.toInt32), .val (.int (8 * n).toInt32), .val (.ref ab), .val (.int k1.toInt32), .val (.int k2.toInt32), .unset, .unset, .unset, .unset, .unset, .unset, .unset, .unset] [(.ref ob)]))
  refine own_by (fun t kk_ => XS.dup X1.here hx rfl (hb hby at_105) rfl rfl kk_) ?_
  show OwnG p e below s _ _ _ (T1.setTop (mkF m 106 #[.val (.int a), .val (.int b), .val (.int c0), .val (.int d), .val (.int n.toInt32), .val (.int (8 * n).toInt32), .val (.ref ab), .val (.int k1.toInt32), .val (.int k2.toInt32), .unset, .unset, .unset, .unset, .unset, .unset, .unset, .unset] [(.ref ob), (.ref ob)]))
  refine own_by (fun t kk_ => XS.aload X1.here hx rfl (hb hby at_106) rfl rfl kk_) ?_
  show OwnG p e below s _ _ _ (T1.setTop (mkF m 108 #[.val (.int a), .val (.int b), .val (.int c0), .val (.int d), .val (.int n.toInt32), .val (.int (8 * n).toInt32), .val (.ref ab), .val (.int k1.toInt32), .val (.int k2.toInt32), .unset, .unset, .unset, .unset, .unset, .unset, .unset, .unset] [(.ref ab), (.ref ob), (.ref ob)]))
  obtain ⟨_, _, ⟨T8, L8, k8, n8⟩, -, X8, ⟨Lc8, hQ8, l8, y8, z8⟩, st8⟩ := X1.specialBack hx (y := (⟨"com/example/iota_ranker/iotaranker/index/BitInput", "<init>", "([B)V"⟩ : MethodName)) rfl hown (mvT hZ (hw _ (List.mem_of_getElem? (i := 5) rfl))) (mvT hZ (hw _ (List.mem_of_getElem? (i := 6) rfl))) (mvT hZ (hw _ (List.mem_of_getElem? (i := 7) rfl))) (by decide) (backOf (W := 1) (rm1 l Z a0 hw [] ob ab h1 n0 sz1 A1 f4 f5 f7 f6 gg_ob) hZ (hw _ (List.mem_of_getElem? (i := 7) rfl)) (hw _ (List.mem_of_getElem? (i := 4) rfl)) (by decide) (by decide)) (g := (mkF m 108 #[.val (.int a), .val (.int b), .val (.int c0), .val (.int d), .val (.int n.toInt32), .val (.int (8 * n).toInt32), .val (.ref ab), .val (.int k1.toInt32), .val (.int k2.toInt32), .unset, .unset, .unset, .unset, .unset, .unset, .unset, .unset] [(.ref ab), (.ref ob), (.ref ob)])) rfl (by rw [hml]; rfl) (Steps.refl _) (a := ob) (argsL := [(.ref ab)]) (rest := [(.ref ob)]) (lenOf pd_1 rfl) rfl (by show 2 * 0 + _ ≤ _; exact Nat.le_of_eq rfl) (hb hby at_108) (fun _ _ => ⟨rfl, e1, (by decide : 0 + 1 + 1 + 0 ≤ _), (by decide : 0 + 4 + 4 + 0 ≤ _)⟩)
  dsimp only [Pt.U, Pt.locs, Pt.cells, Pt.slots] at X8 l8 y8 z8 st8 hQ8
  subst l8 y8 z8
  refine own_by (fun t kk_ => st8.trans kk_) ?_
  obtain ⟨rfl, N8q, K8, O8⟩ := hQ8
  have N8 := Fr.app N0 N8q
  have sz8 : n0 ≤ T8.heap.size := Nat.le_trans sz1 K8.1
  have f9 := OwnA.keep f3 K8 (ninS ne2 nin0)
  have f10 := Exa.keep A1 K8
  show OwnG p e below s _ _ _ (T8.setTop (mkF m 111 #[.val (.int a), .val (.int b), .val (.int c0), .val (.int d), .val (.int n.toInt32), .val (.int (8 * n).toInt32), .val (.ref ab), .val (.int k1.toInt32), .val (.int k2.toInt32), .unset, .unset, .unset, .unset, .unset, .unset, .unset, .unset] [(.ref ob)]))
  refine own_by (fun t kk_ => XS.astore X8.here hx rfl (hb hby at_111) rfl rfl (l' := #[.val (.int a), .val (.int b), .val (.int c0), .val (.int d), .val (.int n.toInt32), .val (.int (8 * n).toInt32), .val (.ref ab), .val (.int k1.toInt32), .val (.int k2.toInt32), .val (.ref ob), .unset, .unset, .unset, .unset, .unset, .unset, .unset]) rfl kk_) ?_
  show OwnG p e below s _ _ _ (T8.setTop (mkF m 113 #[.val (.int a), .val (.int b), .val (.int c0), .val (.int d), .val (.int n.toInt32), .val (.int (8 * n).toInt32), .val (.ref ab), .val (.int k1.toInt32), .val (.int k2.toInt32), .val (.ref ob), .unset, .unset, .unset, .unset, .unset, .unset, .unset] []))
  refine own_by (fun t kk_ => XS.aload X8.here hx rfl (hb hby at_113) rfl rfl kk_) ?_
  show OwnG p e below s _ _ _ (T8.setTop (mkF m 115 #[.val (.int a), .val (.int b), .val (.int c0), .val (.int d), .val (.int n.toInt32), .val (.int (8 * n).toInt32), .val (.ref ab), .val (.int k1.toInt32), .val (.int k2.toInt32), .val (.ref ob), .unset, .unset, .unset, .unset, .unset, .unset, .unset] [(.ref ob)]))
  refine own_by (fun t kk_ => XS.iload X8.here hx rfl (hb hby at_115) rfl  kk_) ?_
  show OwnG p e below s _ _ _ (T8.setTop (mkF m 117 #[.val (.int a), .val (.int b), .val (.int c0), .val (.int d), .val (.int n.toInt32), .val (.int (8 * n).toInt32), .val (.ref ab), .val (.int k1.toInt32), .val (.int k2.toInt32), .val (.ref ob), .unset, .unset, .unset, .unset, .unset, .unset, .unset] [(.int k1.toInt32), (.ref ob)]))
  rcases Nat.eq_zero_or_pos k1 with hzk1 | hzk1
  · subst hzk1
    show OwnG p e below s _ _ _ (T8.setTop (mkF m 117 #[.val (.int a), .val (.int b), .val (.int c0), .val (.int d), .val (.int n.toInt32), .val (.int (8 * n).toInt32), .val (.ref ab), .val (.int (0 : Int32)), .val (.int k2.toInt32), .val (.ref ob), .unset, .unset, .unset, .unset, .unset, .unset, .unset] [(.int (0 : Int32)), (.ref ob)]))
    obtain ⟨cq11, kq11, q11a, q11b, q11c⟩ := isOf hZ (rfl : T8.heap = T8.heap) O8.1
    obtain ⟨_, _, ⟨T11, L11, k11, n11⟩, -, X11, ⟨Lc11, hQ11, l11, y11, z11⟩, st11⟩ := X8.virtualBack hx (y := (⟨"com/example/iota_ranker/iotaranker/index/BitInput", "readBits", "(I)J"⟩ : MethodName)) (z := (⟨"com/example/iota_ranker/iotaranker/index/BitInput", "readBits", "(I)J"⟩ : MethodName)) hown (mvT hZ (hw _ (List.mem_of_getElem? (i := 13) rfl))) (mvT hZ (hw _ (List.mem_of_getElem? (i := 14) rfl))) (notFace_of_selects (args := #[]) (mvT hZ (hw _ (List.mem_of_getElem? (i := 16) rfl)))) (mvT hZ (hw _ (List.mem_of_getElem? (i := 16) rfl))) (mvT hZ (hw _ (List.mem_of_getElem? (i := 15) rfl))) (by decide) (backOf (W := 0) (rm3z l Z a0 hw [] ob T8.heap n0 sz8) hZ (hw _ (List.mem_of_getElem? (i := 17) rfl)) (hw _ (List.mem_of_getElem? (i := 4) rfl)) (by decide) (by decide)) q11a q11c (g := (mkF m 117 #[.val (.int a), .val (.int b), .val (.int c0), .val (.int d), .val (.int n.toInt32), .val (.int (8 * n).toInt32), .val (.ref ab), .val (.int (0 : Int32)), .val (.int k2.toInt32), .val (.ref ob), .unset, .unset, .unset, .unset, .unset, .unset, .unset] [(.int (0 : Int32)), (.ref ob)])) rfl (by rw [hml]; rfl) (Steps.refl _) (argsL := [(.int (0 : Int32))]) (rest := []) (lenOf pd_2 rfl) rfl (by show 2 * 0 + _ ≤ _; exact Nat.le_of_eq rfl) (hb hby at_117) (fun _ _ => ⟨rfl, (rfl : T8.heap = T8.heap), (by decide : 0 + 1 + 1 + 0 ≤ _), (by decide : 0 + 4 + 4 + 0 ≤ _)⟩)
    dsimp only [Pt.U, Pt.locs, Pt.cells, Pt.slots] at X11 l11 y11 z11 st11 hQ11
    subst l11 y11 z11
    refine own_by (fun t kk_ => st11.trans kk_) ?_
    obtain ⟨⟨z11, rfl⟩, N11q, hh11⟩ := hQ11
    have N11 := Fr.app N8 N11q
    have f12 := f9
    rw [← hh11] at f12
    have f13 := O8.1
    rw [← hh11] at f13
    have f14 := O8.2.1
    rw [← hh11] at f14
    have f15 := O8.2.2.1
    rw [← hh11] at f15
    have f16 := O8.2.2.2.1
    rw [← hh11] at f16
    have f17 := O8.2.2.2.2
    rw [← hh11] at f17
    have sz11 : n0 ≤ T11.heap.size := by rw [hh11]; exact sz8
    have O11 := O8
    rw [← hh11] at O11
    show OwnG p e below s _ _ _ (T11.setTop (mkF m 120 #[.val (.int a), .val (.int b), .val (.int c0), .val (.int d), .val (.int n.toInt32), .val (.int (8 * n).toInt32), .val (.ref ab), .val (.int (0 : Int32)), .val (.int k2.toInt32), .val (.ref ob), .unset, .unset, .unset, .unset, .unset, .unset, .unset] [(.long z11)]))
    refine own_by (fun t kk_ => own_pop2J X11.here hx rfl (hb hby at_120) rfl kk_) ?_
    show OwnG p e below s _ _ _ (T11.setTop (mkF m 121 #[.val (.int a), .val (.int b), .val (.int c0), .val (.int d), .val (.int n.toInt32), .val (.int (8 * n).toInt32), .val (.ref ab), .val (.int (0 : Int32)), .val (.int k2.toInt32), .val (.ref ob), .unset, .unset, .unset, .unset, .unset, .unset, .unset] []))
    refine own_by (fun t kk_ => XS.aload X11.here hx rfl (hb hby at_121) rfl rfl kk_) ?_
    show OwnG p e below s _ _ _ (T11.setTop (mkF m 123 #[.val (.int a), .val (.int b), .val (.int c0), .val (.int d), .val (.int n.toInt32), .val (.int (8 * n).toInt32), .val (.ref ab), .val (.int (0 : Int32)), .val (.int k2.toInt32), .val (.ref ob), .unset, .unset, .unset, .unset, .unset, .unset, .unset] [(.ref ob)]))
    refine own_by (fun t kk_ => XS.iload X11.here hx rfl (hb hby at_123) rfl  kk_) ?_
    show OwnG p e below s _ _ _ (T11.setTop (mkF m 125 #[.val (.int a), .val (.int b), .val (.int c0), .val (.int d), .val (.int n.toInt32), .val (.int (8 * n).toInt32), .val (.ref ab), .val (.int (0 : Int32)), .val (.int k2.toInt32), .val (.ref ob), .unset, .unset, .unset, .unset, .unset, .unset, .unset] [(.int k2.toInt32), (.ref ob)]))
    rcases Nat.eq_zero_or_pos k2 with hzk2 | hzk2
    · subst hzk2
      show OwnG p e below s _ _ _ (T11.setTop (mkF m 125 #[.val (.int a), .val (.int b), .val (.int c0), .val (.int d), .val (.int n.toInt32), .val (.int (8 * n).toInt32), .val (.ref ab), .val (.int (0 : Int32)), .val (.int (0 : Int32)), .val (.ref ob), .unset, .unset, .unset, .unset, .unset, .unset, .unset] [(.int (0 : Int32)), (.ref ob)]))
      obtain ⟨cq18, kq18, q18a, q18b, q18c⟩ := isOf hZ (rfl : T11.heap = T11.heap) f13
      obtain ⟨_, _, ⟨T18, L18, k18, n18⟩, -, X18, ⟨Lc18, hQ18, l18, y18, z18⟩, st18⟩ := X11.virtualBack hx (y := (⟨"com/example/iota_ranker/iotaranker/index/BitInput", "readBits", "(I)J"⟩ : MethodName)) (z := (⟨"com/example/iota_ranker/iotaranker/index/BitInput", "readBits", "(I)J"⟩ : MethodName)) hown (mvT hZ (hw _ (List.mem_of_getElem? (i := 13) rfl))) (mvT hZ (hw _ (List.mem_of_getElem? (i := 14) rfl))) (notFace_of_selects (args := #[]) (mvT hZ (hw _ (List.mem_of_getElem? (i := 16) rfl)))) (mvT hZ (hw _ (List.mem_of_getElem? (i := 16) rfl))) (mvT hZ (hw _ (List.mem_of_getElem? (i := 15) rfl))) (by decide) (backOf (W := 0) (rm3z l Z a0 hw [] ob T11.heap n0 sz11) hZ (hw _ (List.mem_of_getElem? (i := 17) rfl)) (hw _ (List.mem_of_getElem? (i := 4) rfl)) (by decide) (by decide)) q18a q18c (g := (mkF m 125 #[.val (.int a), .val (.int b), .val (.int c0), .val (.int d), .val (.int n.toInt32), .val (.int (8 * n).toInt32), .val (.ref ab), .val (.int (0 : Int32)), .val (.int (0 : Int32)), .val (.ref ob), .unset, .unset, .unset, .unset, .unset, .unset, .unset] [(.int (0 : Int32)), (.ref ob)])) rfl (by rw [hml]; rfl) (Steps.refl _) (argsL := [(.int (0 : Int32))]) (rest := []) (lenOf pd_2 rfl) rfl (by show 2 * 0 + _ ≤ _; exact Nat.le_of_eq rfl) (hb hby at_125) (fun _ _ => ⟨rfl, (rfl : T11.heap = T11.heap), (by decide : 0 + 1 + 1 + 0 ≤ _), (by decide : 0 + 4 + 4 + 0 ≤ _)⟩)
      dsimp only [Pt.U, Pt.locs, Pt.cells, Pt.slots] at X18 l18 y18 z18 st18 hQ18
      subst l18 y18 z18
      refine own_by (fun t kk_ => st18.trans kk_) ?_
      obtain ⟨⟨z18, rfl⟩, N18q, hh18⟩ := hQ18
      have N18 := Fr.app N11 N18q
      have f19 := f12
      rw [← hh18] at f19
      have f20 := f13
      rw [← hh18] at f20
      have f21 := f14
      rw [← hh18] at f21
      have f22 := f15
      rw [← hh18] at f22
      have f23 := f16
      rw [← hh18] at f23
      have f24 := f17
      rw [← hh18] at f24
      have sz18 : n0 ≤ T18.heap.size := by rw [hh18]; exact sz11
      have O18 := O11
      rw [← hh18] at O18
      show OwnG p e below s _ _ _ (T18.setTop (mkF m 128 #[.val (.int a), .val (.int b), .val (.int c0), .val (.int d), .val (.int n.toInt32), .val (.int (8 * n).toInt32), .val (.ref ab), .val (.int (0 : Int32)), .val (.int (0 : Int32)), .val (.ref ob), .unset, .unset, .unset, .unset, .unset, .unset, .unset] [(.long z18)]))
      refine own_by (fun t kk_ => own_pop2J X18.here hx rfl (hb hby at_128) rfl kk_) ?_
      show OwnG p e below s _ _ _ (T18.setTop (mkF m 129 #[.val (.int a), .val (.int b), .val (.int c0), .val (.int d), .val (.int n.toInt32), .val (.int (8 * n).toInt32), .val (.ref ab), .val (.int (0 : Int32)), .val (.int (0 : Int32)), .val (.ref ob), .unset, .unset, .unset, .unset, .unset, .unset, .unset] []))
      refine own_by (fun t kk_ => XS.aload X18.here hx rfl (hb hby at_129) rfl rfl kk_) ?_
      show OwnG p e below s _ _ _ (T18.setTop (mkF m 131 #[.val (.int a), .val (.int b), .val (.int c0), .val (.int d), .val (.int n.toInt32), .val (.int (8 * n).toInt32), .val (.ref ab), .val (.int (0 : Int32)), .val (.int (0 : Int32)), .val (.ref ob), .unset, .unset, .unset, .unset, .unset, .unset, .unset] [(.ref ob)]))
      obtain ⟨cq25, kq25, q25a, q25b, q25c⟩ := isOf hZ (rfl : T18.heap = T18.heap) f20
      obtain ⟨_, _, ⟨T25, L25, k25, n25⟩, -, X25, ⟨Lc25, hQ25, l25, y25, z25⟩, st25⟩ := X18.virtualBack hx (y := (⟨"com/example/iota_ranker/iotaranker/index/BitInput", "atPadding", "()Z"⟩ : MethodName)) (z := (⟨"com/example/iota_ranker/iotaranker/index/BitInput", "atPadding", "()Z"⟩ : MethodName)) hown (mvT hZ (hw _ (List.mem_of_getElem? (i := 18) rfl))) (mvT hZ (hw _ (List.mem_of_getElem? (i := 19) rfl))) (notFace_of_selects (args := #[]) (mvT hZ (hw _ (List.mem_of_getElem? (i := 21) rfl)))) (mvT hZ (hw _ (List.mem_of_getElem? (i := 21) rfl))) (mvT hZ (hw _ (List.mem_of_getElem? (i := 20) rfl))) (by decide) (backOf (W := 0) (rm4 l Z a0 hw [] ob ab b n 0 0 0 T18.heap n0 sz18 O18 f19) hZ (hw _ (List.mem_of_getElem? (i := 22) rfl)) (hw _ (List.mem_of_getElem? (i := 4) rfl)) (by decide) (by decide)) q25a q25c (g := (mkF m 131 #[.val (.int a), .val (.int b), .val (.int c0), .val (.int d), .val (.int n.toInt32), .val (.int (8 * n).toInt32), .val (.ref ab), .val (.int (0 : Int32)), .val (.int (0 : Int32)), .val (.ref ob), .unset, .unset, .unset, .unset, .unset, .unset, .unset] [(.ref ob)])) rfl (by rw [hml]; rfl) (Steps.refl _) (argsL := []) (rest := []) (lenOf pd_3 rfl) rfl (by show 2 * 0 + _ ≤ _; exact Nat.le_of_eq rfl) (hb hby at_131) (fun _ _ => ⟨rfl, (rfl : T18.heap = T18.heap), (by decide : 0 + 1 + 1 + 0 ≤ _), (by decide : 0 + 4 + 4 + 0 ≤ _)⟩)
      dsimp only [Pt.U, Pt.locs, Pt.cells, Pt.slots] at X25 l25 y25 z25 st25 hQ25
      subst l25 y25 z25
      refine own_by (fun t kk_ => st25.trans kk_) ?_
      obtain ⟨rfl, N25q, hh25⟩ := hQ25
      have N25 := Fr.app N18 N25q
      have f26 := f19
      rw [← hh25] at f26
      have f27 := f20
      rw [← hh25] at f27
      have f28 := f21
      rw [← hh25] at f28
      have f29 := f22
      rw [← hh25] at f29
      have f30 := f23
      rw [← hh25] at f30
      have f31 := f24
      rw [← hh25] at f31
      have sz25 : n0 ≤ T25.heap.size := by rw [hh25]; exact sz18
      show OwnG p e below s _ _ _ (T25.setTop (mkF m 134 #[.val (.int a), .val (.int b), .val (.int c0), .val (.int d), .val (.int n.toInt32), .val (.int (8 * n).toInt32), .val (.ref ab), .val (.int (0 : Int32)), .val (.int (0 : Int32)), .val (.ref ob), .unset, .unset, .unset, .unset, .unset, .unset, .unset] [(.int (own_pad (0 = n.toInt32 ∧ 0 < 8 ∧ 0 = 0)))]))
      exact own_end a b c0 d n 0 0 ab ob _ X25 hx hby hml hret hlk hown hnm hZ hw (rfl : T25.heap = T25.heap) N25 sz25 (own_padU b n hn4) (by omega) hn4
    · show OwnG p e below s _ _ _ (T11.setTop (mkF m 125 #[.val (.int a), .val (.int b), .val (.int c0), .val (.int d), .val (.int n.toInt32), .val (.int (8 * n).toInt32), .val (.ref ab), .val (.int (0 : Int32)), .val (.int k2.toInt32), .val (.ref ob), .unset, .unset, .unset, .unset, .unset, .unset, .unset] [(.int k2.toInt32), (.ref ob)]))
      obtain ⟨cq32, kq32, q32a, q32b, q32c⟩ := isOf hZ (rfl : T11.heap = T11.heap) f13
      obtain ⟨_, _, ⟨T32, L32, k32, n32⟩, -, X32, ⟨Lc32, hQ32, l32, y32, z32⟩, st32⟩ := X11.virtualBack hx (y := (⟨"com/example/iota_ranker/iotaranker/index/BitInput", "readBits", "(I)J"⟩ : MethodName)) (z := (⟨"com/example/iota_ranker/iotaranker/index/BitInput", "readBits", "(I)J"⟩ : MethodName)) hown (mvT hZ (hw _ (List.mem_of_getElem? (i := 13) rfl))) (mvT hZ (hw _ (List.mem_of_getElem? (i := 14) rfl))) (notFace_of_selects (args := #[]) (mvT hZ (hw _ (List.mem_of_getElem? (i := 16) rfl)))) (mvT hZ (hw _ (List.mem_of_getElem? (i := 16) rfl))) (mvT hZ (hw _ (List.mem_of_getElem? (i := 15) rfl))) (by decide) (backOf (W := 0) (rm3u l Z a0 hw [] ob ab b n k2 T11.heap n0 sz11 O11 f12 (Ne.symm ne2) gg_ob hn4 hzk2 (by omega)) hZ (hw _ (List.mem_of_getElem? (i := 17) rfl)) (hw _ (List.mem_of_getElem? (i := 4) rfl)) (by decide) (by decide)) q32a q32c (g := (mkF m 125 #[.val (.int a), .val (.int b), .val (.int c0), .val (.int d), .val (.int n.toInt32), .val (.int (8 * n).toInt32), .val (.ref ab), .val (.int (0 : Int32)), .val (.int k2.toInt32), .val (.ref ob), .unset, .unset, .unset, .unset, .unset, .unset, .unset] [(.int k2.toInt32), (.ref ob)])) rfl (by rw [hml]; rfl) (Steps.refl _) (argsL := [(.int k2.toInt32)]) (rest := []) (lenOf pd_2 rfl) rfl (by show 2 * 0 + _ ≤ _; exact Nat.le_of_eq rfl) (hb hby at_125) (fun _ _ => ⟨rfl, (rfl : T11.heap = T11.heap), (by decide : 0 + 1 + 1 + 0 ≤ _), (by decide : 0 + 4 + 4 + 0 ≤ _)⟩)
      dsimp only [Pt.U, Pt.locs, Pt.cells, Pt.slots] at X32 l32 y32 z32 st32 hQ32
      subst l32 y32 z32
      refine own_by (fun t kk_ => st32.trans kk_) ?_
      obtain ⟨⟨z32, rfl⟩, N32q, K32, O32⟩ := hQ32
      have N32 := Fr.app N11 N32q
      have sz32 : n0 ≤ T32.heap.size := Nat.le_trans sz11 K32.1
      have f33 := OwnA.keep f12 K32 (ninS ne2 nin0)
      have f34 := Exa.keep f13 K32
      show OwnG p e below s _ _ _ (T32.setTop (mkF m 128 #[.val (.int a), .val (.int b), .val (.int c0), .val (.int d), .val (.int n.toInt32), .val (.int (8 * n).toInt32), .val (.ref ab), .val (.int (0 : Int32)), .val (.int k2.toInt32), .val (.ref ob), .unset, .unset, .unset, .unset, .unset, .unset, .unset] [(.long z32)]))
      refine own_by (fun t kk_ => own_pop2J X32.here hx rfl (hb hby at_128) rfl kk_) ?_
      show OwnG p e below s _ _ _ (T32.setTop (mkF m 129 #[.val (.int a), .val (.int b), .val (.int c0), .val (.int d), .val (.int n.toInt32), .val (.int (8 * n).toInt32), .val (.ref ab), .val (.int (0 : Int32)), .val (.int k2.toInt32), .val (.ref ob), .unset, .unset, .unset, .unset, .unset, .unset, .unset] []))
      refine own_by (fun t kk_ => XS.aload X32.here hx rfl (hb hby at_129) rfl rfl kk_) ?_
      show OwnG p e below s _ _ _ (T32.setTop (mkF m 131 #[.val (.int a), .val (.int b), .val (.int c0), .val (.int d), .val (.int n.toInt32), .val (.int (8 * n).toInt32), .val (.ref ab), .val (.int (0 : Int32)), .val (.int k2.toInt32), .val (.ref ob), .unset, .unset, .unset, .unset, .unset, .unset, .unset] [(.ref ob)]))
      obtain ⟨cq35, kq35, q35a, q35b, q35c⟩ := isOf hZ (rfl : T32.heap = T32.heap) O32.1
      obtain ⟨_, _, ⟨T35, L35, k35, n35⟩, -, X35, ⟨Lc35, hQ35, l35, y35, z35⟩, st35⟩ := X32.virtualBack hx (y := (⟨"com/example/iota_ranker/iotaranker/index/BitInput", "atPadding", "()Z"⟩ : MethodName)) (z := (⟨"com/example/iota_ranker/iotaranker/index/BitInput", "atPadding", "()Z"⟩ : MethodName)) hown (mvT hZ (hw _ (List.mem_of_getElem? (i := 18) rfl))) (mvT hZ (hw _ (List.mem_of_getElem? (i := 19) rfl))) (notFace_of_selects (args := #[]) (mvT hZ (hw _ (List.mem_of_getElem? (i := 21) rfl)))) (mvT hZ (hw _ (List.mem_of_getElem? (i := 21) rfl))) (mvT hZ (hw _ (List.mem_of_getElem? (i := 20) rfl))) (by decide) (backOf (W := 0) (rm4 l Z a0 hw [] ob ab b n n.toInt32 (own_L b n k2) (8 * n - k2).toInt32 T32.heap n0 sz32 O32 f33) hZ (hw _ (List.mem_of_getElem? (i := 22) rfl)) (hw _ (List.mem_of_getElem? (i := 4) rfl)) (by decide) (by decide)) q35a q35c (g := (mkF m 131 #[.val (.int a), .val (.int b), .val (.int c0), .val (.int d), .val (.int n.toInt32), .val (.int (8 * n).toInt32), .val (.ref ab), .val (.int (0 : Int32)), .val (.int k2.toInt32), .val (.ref ob), .unset, .unset, .unset, .unset, .unset, .unset, .unset] [(.ref ob)])) rfl (by rw [hml]; rfl) (Steps.refl _) (argsL := []) (rest := []) (lenOf pd_3 rfl) rfl (by show 2 * 0 + _ ≤ _; exact Nat.le_of_eq rfl) (hb hby at_131) (fun _ _ => ⟨rfl, (rfl : T32.heap = T32.heap), (by decide : 0 + 1 + 1 + 0 ≤ _), (by decide : 0 + 4 + 4 + 0 ≤ _)⟩)
      dsimp only [Pt.U, Pt.locs, Pt.cells, Pt.slots] at X35 l35 y35 z35 st35 hQ35
      subst l35 y35 z35
      refine own_by (fun t kk_ => st35.trans kk_) ?_
      obtain ⟨rfl, N35q, hh35⟩ := hQ35
      have N35 := Fr.app N32 N35q
      have f36 := f33
      rw [← hh35] at f36
      have f37 := O32.1
      rw [← hh35] at f37
      have f38 := O32.2.1
      rw [← hh35] at f38
      have f39 := O32.2.2.1
      rw [← hh35] at f39
      have f40 := O32.2.2.2.1
      rw [← hh35] at f40
      have f41 := O32.2.2.2.2
      rw [← hh35] at f41
      have sz35 : n0 ≤ T35.heap.size := by rw [hh35]; exact sz32
      show OwnG p e below s _ _ _ (T35.setTop (mkF m 134 #[.val (.int a), .val (.int b), .val (.int c0), .val (.int d), .val (.int n.toInt32), .val (.int (8 * n).toInt32), .val (.ref ab), .val (.int (0 : Int32)), .val (.int k2.toInt32), .val (.ref ob), .unset, .unset, .unset, .unset, .unset, .unset, .unset] [(.int (own_pad (n.toInt32 = n.toInt32 ∧ (8 * n - k2).toInt32 < 8 ∧ (own_L b n k2) = 0)))]))
      exact own_end a b c0 d n 0 k2 ab ob _ X35 hx hby hml hret hlk hown hnm hZ hw (rfl : T35.heap = T35.heap) N35 sz35 (own_padL b n _ _ hn4 (by omega) (by simp)) (by omega) hn4
  · show OwnG p e below s _ _ _ (T8.setTop (mkF m 117 #[.val (.int a), .val (.int b), .val (.int c0), .val (.int d), .val (.int n.toInt32), .val (.int (8 * n).toInt32), .val (.ref ab), .val (.int k1.toInt32), .val (.int k2.toInt32), .val (.ref ob), .unset, .unset, .unset, .unset, .unset, .unset, .unset] [(.int k1.toInt32), (.ref ob)]))
    obtain ⟨cq42, kq42, q42a, q42b, q42c⟩ := isOf hZ (rfl : T8.heap = T8.heap) O8.1
    obtain ⟨_, _, ⟨T42, L42, k42, n42⟩, -, X42, ⟨Lc42, hQ42, l42, y42, z42⟩, st42⟩ := X8.virtualBack hx (y := (⟨"com/example/iota_ranker/iotaranker/index/BitInput", "readBits", "(I)J"⟩ : MethodName)) (z := (⟨"com/example/iota_ranker/iotaranker/index/BitInput", "readBits", "(I)J"⟩ : MethodName)) hown (mvT hZ (hw _ (List.mem_of_getElem? (i := 13) rfl))) (mvT hZ (hw _ (List.mem_of_getElem? (i := 14) rfl))) (notFace_of_selects (args := #[]) (mvT hZ (hw _ (List.mem_of_getElem? (i := 16) rfl)))) (mvT hZ (hw _ (List.mem_of_getElem? (i := 16) rfl))) (mvT hZ (hw _ (List.mem_of_getElem? (i := 15) rfl))) (by decide) (backOf (W := 0) (rm3u l Z a0 hw [] ob ab b n k1 T8.heap n0 sz8 O8 f9 (Ne.symm ne2) gg_ob hn4 hzk1 (by omega)) hZ (hw _ (List.mem_of_getElem? (i := 17) rfl)) (hw _ (List.mem_of_getElem? (i := 4) rfl)) (by decide) (by decide)) q42a q42c (g := (mkF m 117 #[.val (.int a), .val (.int b), .val (.int c0), .val (.int d), .val (.int n.toInt32), .val (.int (8 * n).toInt32), .val (.ref ab), .val (.int k1.toInt32), .val (.int k2.toInt32), .val (.ref ob), .unset, .unset, .unset, .unset, .unset, .unset, .unset] [(.int k1.toInt32), (.ref ob)])) rfl (by rw [hml]; rfl) (Steps.refl _) (argsL := [(.int k1.toInt32)]) (rest := []) (lenOf pd_2 rfl) rfl (by show 2 * 0 + _ ≤ _; exact Nat.le_of_eq rfl) (hb hby at_117) (fun _ _ => ⟨rfl, (rfl : T8.heap = T8.heap), (by decide : 0 + 1 + 1 + 0 ≤ _), (by decide : 0 + 4 + 4 + 0 ≤ _)⟩)
    dsimp only [Pt.U, Pt.locs, Pt.cells, Pt.slots] at X42 l42 y42 z42 st42 hQ42
    subst l42 y42 z42
    refine own_by (fun t kk_ => st42.trans kk_) ?_
    obtain ⟨⟨z42, rfl⟩, N42q, K42, O42⟩ := hQ42
    have N42 := Fr.app N8 N42q
    have sz42 : n0 ≤ T42.heap.size := Nat.le_trans sz8 K42.1
    have f43 := OwnA.keep f9 K42 (ninS ne2 nin0)
    have f44 := Exa.keep O8.1 K42
    show OwnG p e below s _ _ _ (T42.setTop (mkF m 120 #[.val (.int a), .val (.int b), .val (.int c0), .val (.int d), .val (.int n.toInt32), .val (.int (8 * n).toInt32), .val (.ref ab), .val (.int k1.toInt32), .val (.int k2.toInt32), .val (.ref ob), .unset, .unset, .unset, .unset, .unset, .unset, .unset] [(.long z42)]))
    refine own_by (fun t kk_ => own_pop2J X42.here hx rfl (hb hby at_120) rfl kk_) ?_
    show OwnG p e below s _ _ _ (T42.setTop (mkF m 121 #[.val (.int a), .val (.int b), .val (.int c0), .val (.int d), .val (.int n.toInt32), .val (.int (8 * n).toInt32), .val (.ref ab), .val (.int k1.toInt32), .val (.int k2.toInt32), .val (.ref ob), .unset, .unset, .unset, .unset, .unset, .unset, .unset] []))
    refine own_by (fun t kk_ => XS.aload X42.here hx rfl (hb hby at_121) rfl rfl kk_) ?_
    show OwnG p e below s _ _ _ (T42.setTop (mkF m 123 #[.val (.int a), .val (.int b), .val (.int c0), .val (.int d), .val (.int n.toInt32), .val (.int (8 * n).toInt32), .val (.ref ab), .val (.int k1.toInt32), .val (.int k2.toInt32), .val (.ref ob), .unset, .unset, .unset, .unset, .unset, .unset, .unset] [(.ref ob)]))
    refine own_by (fun t kk_ => XS.iload X42.here hx rfl (hb hby at_123) rfl  kk_) ?_
    show OwnG p e below s _ _ _ (T42.setTop (mkF m 125 #[.val (.int a), .val (.int b), .val (.int c0), .val (.int d), .val (.int n.toInt32), .val (.int (8 * n).toInt32), .val (.ref ab), .val (.int k1.toInt32), .val (.int k2.toInt32), .val (.ref ob), .unset, .unset, .unset, .unset, .unset, .unset, .unset] [(.int k2.toInt32), (.ref ob)]))
    rcases Nat.eq_zero_or_pos k2 with hzk2 | hzk2
    · subst hzk2
      show OwnG p e below s _ _ _ (T42.setTop (mkF m 125 #[.val (.int a), .val (.int b), .val (.int c0), .val (.int d), .val (.int n.toInt32), .val (.int (8 * n).toInt32), .val (.ref ab), .val (.int k1.toInt32), .val (.int (0 : Int32)), .val (.ref ob), .unset, .unset, .unset, .unset, .unset, .unset, .unset] [(.int (0 : Int32)), (.ref ob)]))
      obtain ⟨cq45, kq45, q45a, q45b, q45c⟩ := isOf hZ (rfl : T42.heap = T42.heap) O42.1
      obtain ⟨_, _, ⟨T45, L45, k45, n45⟩, -, X45, ⟨Lc45, hQ45, l45, y45, z45⟩, st45⟩ := X42.virtualBack hx (y := (⟨"com/example/iota_ranker/iotaranker/index/BitInput", "readBits", "(I)J"⟩ : MethodName)) (z := (⟨"com/example/iota_ranker/iotaranker/index/BitInput", "readBits", "(I)J"⟩ : MethodName)) hown (mvT hZ (hw _ (List.mem_of_getElem? (i := 13) rfl))) (mvT hZ (hw _ (List.mem_of_getElem? (i := 14) rfl))) (notFace_of_selects (args := #[]) (mvT hZ (hw _ (List.mem_of_getElem? (i := 16) rfl)))) (mvT hZ (hw _ (List.mem_of_getElem? (i := 16) rfl))) (mvT hZ (hw _ (List.mem_of_getElem? (i := 15) rfl))) (by decide) (backOf (W := 0) (rm3z l Z a0 hw [] ob T42.heap n0 sz42) hZ (hw _ (List.mem_of_getElem? (i := 17) rfl)) (hw _ (List.mem_of_getElem? (i := 4) rfl)) (by decide) (by decide)) q45a q45c (g := (mkF m 125 #[.val (.int a), .val (.int b), .val (.int c0), .val (.int d), .val (.int n.toInt32), .val (.int (8 * n).toInt32), .val (.ref ab), .val (.int k1.toInt32), .val (.int (0 : Int32)), .val (.ref ob), .unset, .unset, .unset, .unset, .unset, .unset, .unset] [(.int (0 : Int32)), (.ref ob)])) rfl (by rw [hml]; rfl) (Steps.refl _) (argsL := [(.int (0 : Int32))]) (rest := []) (lenOf pd_2 rfl) rfl (by show 2 * 0 + _ ≤ _; exact Nat.le_of_eq rfl) (hb hby at_125) (fun _ _ => ⟨rfl, (rfl : T42.heap = T42.heap), (by decide : 0 + 1 + 1 + 0 ≤ _), (by decide : 0 + 4 + 4 + 0 ≤ _)⟩)
      dsimp only [Pt.U, Pt.locs, Pt.cells, Pt.slots] at X45 l45 y45 z45 st45 hQ45
      subst l45 y45 z45
      refine own_by (fun t kk_ => st45.trans kk_) ?_
      obtain ⟨⟨z45, rfl⟩, N45q, hh45⟩ := hQ45
      have N45 := Fr.app N42 N45q
      have f46 := f43
      rw [← hh45] at f46
      have f47 := O42.1
      rw [← hh45] at f47
      have f48 := O42.2.1
      rw [← hh45] at f48
      have f49 := O42.2.2.1
      rw [← hh45] at f49
      have f50 := O42.2.2.2.1
      rw [← hh45] at f50
      have f51 := O42.2.2.2.2
      rw [← hh45] at f51
      have sz45 : n0 ≤ T45.heap.size := by rw [hh45]; exact sz42
      have O45 := O42
      rw [← hh45] at O45
      show OwnG p e below s _ _ _ (T45.setTop (mkF m 128 #[.val (.int a), .val (.int b), .val (.int c0), .val (.int d), .val (.int n.toInt32), .val (.int (8 * n).toInt32), .val (.ref ab), .val (.int k1.toInt32), .val (.int (0 : Int32)), .val (.ref ob), .unset, .unset, .unset, .unset, .unset, .unset, .unset] [(.long z45)]))
      refine own_by (fun t kk_ => own_pop2J X45.here hx rfl (hb hby at_128) rfl kk_) ?_
      show OwnG p e below s _ _ _ (T45.setTop (mkF m 129 #[.val (.int a), .val (.int b), .val (.int c0), .val (.int d), .val (.int n.toInt32), .val (.int (8 * n).toInt32), .val (.ref ab), .val (.int k1.toInt32), .val (.int (0 : Int32)), .val (.ref ob), .unset, .unset, .unset, .unset, .unset, .unset, .unset] []))
      refine own_by (fun t kk_ => XS.aload X45.here hx rfl (hb hby at_129) rfl rfl kk_) ?_
      show OwnG p e below s _ _ _ (T45.setTop (mkF m 131 #[.val (.int a), .val (.int b), .val (.int c0), .val (.int d), .val (.int n.toInt32), .val (.int (8 * n).toInt32), .val (.ref ab), .val (.int k1.toInt32), .val (.int (0 : Int32)), .val (.ref ob), .unset, .unset, .unset, .unset, .unset, .unset, .unset] [(.ref ob)]))
      obtain ⟨cq52, kq52, q52a, q52b, q52c⟩ := isOf hZ (rfl : T45.heap = T45.heap) f47
      obtain ⟨_, _, ⟨T52, L52, k52, n52⟩, -, X52, ⟨Lc52, hQ52, l52, y52, z52⟩, st52⟩ := X45.virtualBack hx (y := (⟨"com/example/iota_ranker/iotaranker/index/BitInput", "atPadding", "()Z"⟩ : MethodName)) (z := (⟨"com/example/iota_ranker/iotaranker/index/BitInput", "atPadding", "()Z"⟩ : MethodName)) hown (mvT hZ (hw _ (List.mem_of_getElem? (i := 18) rfl))) (mvT hZ (hw _ (List.mem_of_getElem? (i := 19) rfl))) (notFace_of_selects (args := #[]) (mvT hZ (hw _ (List.mem_of_getElem? (i := 21) rfl)))) (mvT hZ (hw _ (List.mem_of_getElem? (i := 21) rfl))) (mvT hZ (hw _ (List.mem_of_getElem? (i := 20) rfl))) (by decide) (backOf (W := 0) (rm4 l Z a0 hw [] ob ab b n n.toInt32 (own_L b n k1) (8 * n - k1).toInt32 T45.heap n0 sz45 O45 f46) hZ (hw _ (List.mem_of_getElem? (i := 22) rfl)) (hw _ (List.mem_of_getElem? (i := 4) rfl)) (by decide) (by decide)) q52a q52c (g := (mkF m 131 #[.val (.int a), .val (.int b), .val (.int c0), .val (.int d), .val (.int n.toInt32), .val (.int (8 * n).toInt32), .val (.ref ab), .val (.int k1.toInt32), .val (.int (0 : Int32)), .val (.ref ob), .unset, .unset, .unset, .unset, .unset, .unset, .unset] [(.ref ob)])) rfl (by rw [hml]; rfl) (Steps.refl _) (argsL := []) (rest := []) (lenOf pd_3 rfl) rfl (by show 2 * 0 + _ ≤ _; exact Nat.le_of_eq rfl) (hb hby at_131) (fun _ _ => ⟨rfl, (rfl : T45.heap = T45.heap), (by decide : 0 + 1 + 1 + 0 ≤ _), (by decide : 0 + 4 + 4 + 0 ≤ _)⟩)
      dsimp only [Pt.U, Pt.locs, Pt.cells, Pt.slots] at X52 l52 y52 z52 st52 hQ52
      subst l52 y52 z52
      refine own_by (fun t kk_ => st52.trans kk_) ?_
      obtain ⟨rfl, N52q, hh52⟩ := hQ52
      have N52 := Fr.app N45 N52q
      have f53 := f46
      rw [← hh52] at f53
      have f54 := f47
      rw [← hh52] at f54
      have f55 := f48
      rw [← hh52] at f55
      have f56 := f49
      rw [← hh52] at f56
      have f57 := f50
      rw [← hh52] at f57
      have f58 := f51
      rw [← hh52] at f58
      have sz52 : n0 ≤ T52.heap.size := by rw [hh52]; exact sz45
      show OwnG p e below s _ _ _ (T52.setTop (mkF m 134 #[.val (.int a), .val (.int b), .val (.int c0), .val (.int d), .val (.int n.toInt32), .val (.int (8 * n).toInt32), .val (.ref ab), .val (.int k1.toInt32), .val (.int (0 : Int32)), .val (.ref ob), .unset, .unset, .unset, .unset, .unset, .unset, .unset] [(.int (own_pad (n.toInt32 = n.toInt32 ∧ (8 * n - k1).toInt32 < 8 ∧ (own_L b n k1) = 0)))]))
      exact own_end a b c0 d n k1 0 ab ob _ X52 hx hby hml hret hlk hown hnm hZ hw (rfl : T52.heap = T52.heap) N52 sz52 (own_padL b n _ _ hn4 (by omega) (by simp)) (by omega) hn4
    · show OwnG p e below s _ _ _ (T42.setTop (mkF m 125 #[.val (.int a), .val (.int b), .val (.int c0), .val (.int d), .val (.int n.toInt32), .val (.int (8 * n).toInt32), .val (.ref ab), .val (.int k1.toInt32), .val (.int k2.toInt32), .val (.ref ob), .unset, .unset, .unset, .unset, .unset, .unset, .unset] [(.int k2.toInt32), (.ref ob)]))
      obtain ⟨cq59, kq59, q59a, q59b, q59c⟩ := isOf hZ (rfl : T42.heap = T42.heap) O42.1
      obtain ⟨_, _, ⟨T59, L59, k59, n59⟩, -, X59, ⟨Lc59, hQ59, l59, y59, z59⟩, st59⟩ := X42.virtualBack hx (y := (⟨"com/example/iota_ranker/iotaranker/index/BitInput", "readBits", "(I)J"⟩ : MethodName)) (z := (⟨"com/example/iota_ranker/iotaranker/index/BitInput", "readBits", "(I)J"⟩ : MethodName)) hown (mvT hZ (hw _ (List.mem_of_getElem? (i := 13) rfl))) (mvT hZ (hw _ (List.mem_of_getElem? (i := 14) rfl))) (notFace_of_selects (args := #[]) (mvT hZ (hw _ (List.mem_of_getElem? (i := 16) rfl)))) (mvT hZ (hw _ (List.mem_of_getElem? (i := 16) rfl))) (mvT hZ (hw _ (List.mem_of_getElem? (i := 15) rfl))) (by decide) (backOf (W := 0) (rm3l l Z a0 hw [] ob ab b n k1 k2 T42.heap n0 sz42 O42 f43 (Ne.symm ne2) gg_ob hn4 hzk2 (by omega)) hZ (hw _ (List.mem_of_getElem? (i := 17) rfl)) (hw _ (List.mem_of_getElem? (i := 4) rfl)) (by decide) (by decide)) q59a q59c (g := (mkF m 125 #[.val (.int a), .val (.int b), .val (.int c0), .val (.int d), .val (.int n.toInt32), .val (.int (8 * n).toInt32), .val (.ref ab), .val (.int k1.toInt32), .val (.int k2.toInt32), .val (.ref ob), .unset, .unset, .unset, .unset, .unset, .unset, .unset] [(.int k2.toInt32), (.ref ob)])) rfl (by rw [hml]; rfl) (Steps.refl _) (argsL := [(.int k2.toInt32)]) (rest := []) (lenOf pd_2 rfl) rfl (by show 2 * 0 + _ ≤ _; exact Nat.le_of_eq rfl) (hb hby at_125) (fun _ _ => ⟨rfl, (rfl : T42.heap = T42.heap), (by decide : 0 + 1 + 1 + 0 ≤ _), (by decide : 0 + 4 + 4 + 0 ≤ _)⟩)
      dsimp only [Pt.U, Pt.locs, Pt.cells, Pt.slots] at X59 l59 y59 z59 st59 hQ59
      subst l59 y59 z59
      refine own_by (fun t kk_ => st59.trans kk_) ?_
      obtain ⟨⟨z59, rfl⟩, N59q, K59, O59⟩ := hQ59
      have N59 := Fr.app N42 N59q
      have sz59 : n0 ≤ T59.heap.size := Nat.le_trans sz42 K59.1
      have f60 := OwnA.keep f43 K59 (ninS ne2 nin0)
      have f61 := Exa.keep O42.1 K59
      show OwnG p e below s _ _ _ (T59.setTop (mkF m 128 #[.val (.int a), .val (.int b), .val (.int c0), .val (.int d), .val (.int n.toInt32), .val (.int (8 * n).toInt32), .val (.ref ab), .val (.int k1.toInt32), .val (.int k2.toInt32), .val (.ref ob), .unset, .unset, .unset, .unset, .unset, .unset, .unset] [(.long z59)]))
      refine own_by (fun t kk_ => own_pop2J X59.here hx rfl (hb hby at_128) rfl kk_) ?_
      show OwnG p e below s _ _ _ (T59.setTop (mkF m 129 #[.val (.int a), .val (.int b), .val (.int c0), .val (.int d), .val (.int n.toInt32), .val (.int (8 * n).toInt32), .val (.ref ab), .val (.int k1.toInt32), .val (.int k2.toInt32), .val (.ref ob), .unset, .unset, .unset, .unset, .unset, .unset, .unset] []))
      refine own_by (fun t kk_ => XS.aload X59.here hx rfl (hb hby at_129) rfl rfl kk_) ?_
      show OwnG p e below s _ _ _ (T59.setTop (mkF m 131 #[.val (.int a), .val (.int b), .val (.int c0), .val (.int d), .val (.int n.toInt32), .val (.int (8 * n).toInt32), .val (.ref ab), .val (.int k1.toInt32), .val (.int k2.toInt32), .val (.ref ob), .unset, .unset, .unset, .unset, .unset, .unset, .unset] [(.ref ob)]))
      obtain ⟨cq62, kq62, q62a, q62b, q62c⟩ := isOf hZ (rfl : T59.heap = T59.heap) O59.1
      obtain ⟨_, _, ⟨T62, L62, k62, n62⟩, -, X62, ⟨Lc62, hQ62, l62, y62, z62⟩, st62⟩ := X59.virtualBack hx (y := (⟨"com/example/iota_ranker/iotaranker/index/BitInput", "atPadding", "()Z"⟩ : MethodName)) (z := (⟨"com/example/iota_ranker/iotaranker/index/BitInput", "atPadding", "()Z"⟩ : MethodName)) hown (mvT hZ (hw _ (List.mem_of_getElem? (i := 18) rfl))) (mvT hZ (hw _ (List.mem_of_getElem? (i := 19) rfl))) (notFace_of_selects (args := #[]) (mvT hZ (hw _ (List.mem_of_getElem? (i := 21) rfl)))) (mvT hZ (hw _ (List.mem_of_getElem? (i := 21) rfl))) (mvT hZ (hw _ (List.mem_of_getElem? (i := 20) rfl))) (by decide) (backOf (W := 0) (rm4 l Z a0 hw [] ob ab b n n.toInt32 (own_L b n (k1 + k2)) (8 * n - (k1 + k2)).toInt32 T59.heap n0 sz59 O59 f60) hZ (hw _ (List.mem_of_getElem? (i := 22) rfl)) (hw _ (List.mem_of_getElem? (i := 4) rfl)) (by decide) (by decide)) q62a q62c (g := (mkF m 131 #[.val (.int a), .val (.int b), .val (.int c0), .val (.int d), .val (.int n.toInt32), .val (.int (8 * n).toInt32), .val (.ref ab), .val (.int k1.toInt32), .val (.int k2.toInt32), .val (.ref ob), .unset, .unset, .unset, .unset, .unset, .unset, .unset] [(.ref ob)])) rfl (by rw [hml]; rfl) (Steps.refl _) (argsL := []) (rest := []) (lenOf pd_3 rfl) rfl (by show 2 * 0 + _ ≤ _; exact Nat.le_of_eq rfl) (hb hby at_131) (fun _ _ => ⟨rfl, (rfl : T59.heap = T59.heap), (by decide : 0 + 1 + 1 + 0 ≤ _), (by decide : 0 + 4 + 4 + 0 ≤ _)⟩)
      dsimp only [Pt.U, Pt.locs, Pt.cells, Pt.slots] at X62 l62 y62 z62 st62 hQ62
      subst l62 y62 z62
      refine own_by (fun t kk_ => st62.trans kk_) ?_
      obtain ⟨rfl, N62q, hh62⟩ := hQ62
      have N62 := Fr.app N59 N62q
      have f63 := f60
      rw [← hh62] at f63
      have f64 := O59.1
      rw [← hh62] at f64
      have f65 := O59.2.1
      rw [← hh62] at f65
      have f66 := O59.2.2.1
      rw [← hh62] at f66
      have f67 := O59.2.2.2.1
      rw [← hh62] at f67
      have f68 := O59.2.2.2.2
      rw [← hh62] at f68
      have sz62 : n0 ≤ T62.heap.size := by rw [hh62]; exact sz59
      show OwnG p e below s _ _ _ (T62.setTop (mkF m 134 #[.val (.int a), .val (.int b), .val (.int c0), .val (.int d), .val (.int n.toInt32), .val (.int (8 * n).toInt32), .val (.ref ab), .val (.int k1.toInt32), .val (.int k2.toInt32), .val (.ref ob), .unset, .unset, .unset, .unset, .unset, .unset, .unset] [(.int (own_pad (n.toInt32 = n.toInt32 ∧ (8 * n - (k1 + k2)).toInt32 < 8 ∧ (own_L b n (k1 + k2)) = 0)))]))
      exact own_end a b c0 d n k1 k2 ab ob _ X62 hx hby hml hret hlk hown hnm hZ hw (rfl : T62.heap = T62.heap) N62 sz62 (own_padL b n _ _ hn4 (by omega) (by simp)) (by omega) hn4
theorem ef_0 (m : MethodId) (x0 : Int32) (x1 : Int32) (x2 : Int32) (x3 : Int32) : entryFrame m #[(.int x0), (.int x1), (.int x2), (.int x3)] maxLocals = mkF m 0 #[.val (.int x0), .val (.int x1), .val (.int x2), .val (.int x3), .unset, .unset, .unset, .unset, .unset, .unset, .unset, .unset, .unset, .unset, .unset, .unset, .unset] [] := by first | (simp [entryFrame, mkF, argsToLocals, Value.category, maxLocals]; done) | rfl
def Q0 (Z : State) (a b c0 d : Int32) (h0 : Heap) (n0 : Nat) (v : Option Value) (h : Heap) (L : List Loc) : Prop := v = some (.int (1 : Int32)) ∧ Fr n0 L
set_option maxRecDepth 65536 in
set_option maxHeartbeats 40000000 in
theorem rm0 (l : Launch) (Z : State) (a0 : Array Value) (hw : ∀ d ∈ tables_1, d.before a0 Z = true) (ws : List Jvm.Cond) (a b c0 d : Int32) (h0 : Heap) (n0 : Nat) (Z0 : n0 ≤ h0.size) :
    MetFree l x (head1 (Jvm.Cond.code x code maxLocals ret :: ws) room_1) (fun aa_ U => aa_ = #[(.int a), (.int b), (.int c0), (.int d)] ∧ Z.Warmed39 U.vm ∧ U.heap = h0) (fun _ _ _ _ _ => True) (fun _ U o U' => ∃ v L, o = .returned v ∧ Q0 Z a b c0 d h0 n0 v U'.heap L ∧ FrameEnd U o U' L room_1.cells room_1.slots) := by
  refine own_met (Q := fun v h L => Q0 Z a b c0 d h0 n0 v h L) (plainFor_of_name pn_1) ?_
  intro p e s m below meth c s₁ hx hby hml hret hlk hown hnm hZ X0 e0
  have N0 := Fr.nil n0
  rw [ef_0 m a b c0 d]
  show OwnG p e below s _ _ _ (s₁.setTop (mkF m 0 #[.val (.int a), .val (.int b), .val (.int c0), .val (.int d), .unset, .unset, .unset, .unset, .unset, .unset, .unset, .unset, .unset, .unset, .unset, .unset, .unset] []))
  refine own_by (fun t kk_ => XS.iloadN X0.here hx rfl (hb hby at_0) rfl  kk_) ?_
  show OwnG p e below s _ _ _ (s₁.setTop (mkF m 1 #[.val (.int a), .val (.int b), .val (.int c0), .val (.int d), .unset, .unset, .unset, .unset, .unset, .unset, .unset, .unset, .unset, .unset, .unset, .unset, .unset] [(.int a)]))
  refine own_by (fun t kk_ => X0.ldcInt hx hown (mvT hZ (hw _ (List.mem_of_getElem? (i := 0) rfl))) (g := (mkF m 1 #[.val (.int a), .val (.int b), .val (.int c0), .val (.int d), .unset, .unset, .unset, .unset, .unset, .unset, .unset, .unset, .unset, .unset, .unset, .unset, .unset] [(.int a)])) rfl (hb hby at_1) _ kk_) ?_
  show OwnG p e below s _ _ _ (s₁.setTop (mkF m 3 #[.val (.int a), .val (.int b), .val (.int c0), .val (.int d), .unset, .unset, .unset, .unset, .unset, .unset, .unset, .unset, .unset, .unset, .unset, .unset, .unset] [(.int (2147483647 : Int32)), (.int a)]))
  refine own_by (fun t kk_ => XS.iand X0.here hx rfl (hb hby at_3) rfl kk_) ?_
  show OwnG p e below s _ _ _ (s₁.setTop (mkF m 4 #[.val (.int a), .val (.int b), .val (.int c0), .val (.int d), .unset, .unset, .unset, .unset, .unset, .unset, .unset, .unset, .unset, .unset, .unset, .unset, .unset] [(.int (a &&& (2147483647 : Int32)))]))
  refine own_by (fun t kk_ => XS.iconst X0.here hx rfl (hb hby at_4) kk_) ?_
  show OwnG p e below s _ _ _ (s₁.setTop (mkF m 5 #[.val (.int a), .val (.int b), .val (.int c0), .val (.int d), .unset, .unset, .unset, .unset, .unset, .unset, .unset, .unset, .unset, .unset, .unset, .unset, .unset] [(.int (5 : Int32)), (.int (a &&& (2147483647 : Int32)))]))
  refine own_by (fun t kk_ => XS.irem X0.here hx rfl (hb hby at_5) rfl (by decide) kk_) ?_
  show OwnG p e below s _ _ _ (s₁.setTop (mkF m 6 #[.val (.int a), .val (.int b), .val (.int c0), .val (.int d), .unset, .unset, .unset, .unset, .unset, .unset, .unset, .unset, .unset, .unset, .unset, .unset, .unset] [(.int ((a &&& (2147483647 : Int32)) - ((a &&& (2147483647 : Int32)) / (5 : Int32)) * (5 : Int32)))]))
  obtain ⟨n, hn4, hen⟩ := own_rem a (5 : Int32) 4 (by omega) rfl
  rw [hen]
  show OwnG p e below s _ _ _ (s₁.setTop (mkF m 6 #[.val (.int a), .val (.int b), .val (.int c0), .val (.int d), .unset, .unset, .unset, .unset, .unset, .unset, .unset, .unset, .unset, .unset, .unset, .unset, .unset] [(.int n.toInt32)]))
  refine own_by (fun t kk_ => XS.istore X0.here hx rfl (hb hby at_6) rfl (l' := #[.val (.int a), .val (.int b), .val (.int c0), .val (.int d), .val (.int n.toInt32), .unset, .unset, .unset, .unset, .unset, .unset, .unset, .unset, .unset, .unset, .unset, .unset]) rfl kk_) ?_
  show OwnG p e below s _ _ _ (s₁.setTop (mkF m 8 #[.val (.int a), .val (.int b), .val (.int c0), .val (.int d), .val (.int n.toInt32), .unset, .unset, .unset, .unset, .unset, .unset, .unset, .unset, .unset, .unset, .unset, .unset] []))
  refine own_by (fun t kk_ => XS.bipush X0.here hx rfl (hb hby at_8) kk_) ?_
  show OwnG p e below s _ _ _ (s₁.setTop (mkF m 10 #[.val (.int a), .val (.int b), .val (.int c0), .val (.int d), .val (.int n.toInt32), .unset, .unset, .unset, .unset, .unset, .unset, .unset, .unset, .unset, .unset, .unset, .unset] [(.int (8 : Int32))]))
  refine own_by (fun t kk_ => XS.iload X0.here hx rfl (hb hby at_10) rfl  kk_) ?_
  show OwnG p e below s _ _ _ (s₁.setTop (mkF m 12 #[.val (.int a), .val (.int b), .val (.int c0), .val (.int d), .val (.int n.toInt32), .unset, .unset, .unset, .unset, .unset, .unset, .unset, .unset, .unset, .unset, .unset, .unset] [(.int n.toInt32), (.int (8 : Int32))]))
  refine own_by (fun t kk_ => XS.imul X0.here hx rfl (hb hby at_12) rfl kk_) ?_
  show OwnG p e below s _ _ _ (s₁.setTop (mkF m 13 #[.val (.int a), .val (.int b), .val (.int c0), .val (.int d), .val (.int n.toInt32), .unset, .unset, .unset, .unset, .unset, .unset, .unset, .unset, .unset, .unset, .unset, .unset] [(.int ((8 : Int32) * n.toInt32))]))
  rw [own_mul8]
  show OwnG p e below s _ _ _ (s₁.setTop (mkF m 13 #[.val (.int a), .val (.int b), .val (.int c0), .val (.int d), .val (.int n.toInt32), .unset, .unset, .unset, .unset, .unset, .unset, .unset, .unset, .unset, .unset, .unset, .unset] [(.int (8 * n).toInt32)]))
  refine own_by (fun t kk_ => XS.istore X0.here hx rfl (hb hby at_13) rfl (l' := #[.val (.int a), .val (.int b), .val (.int c0), .val (.int d), .val (.int n.toInt32), .val (.int (8 * n).toInt32), .unset, .unset, .unset, .unset, .unset, .unset, .unset, .unset, .unset, .unset, .unset]) rfl kk_) ?_
  show OwnG p e below s _ _ _ (s₁.setTop (mkF m 15 #[.val (.int a), .val (.int b), .val (.int c0), .val (.int d), .val (.int n.toInt32), .val (.int (8 * n).toInt32), .unset, .unset, .unset, .unset, .unset, .unset, .unset, .unset, .unset, .unset, .unset] []))
  obtain hn | hn | hn | hn | hn : n = 0 ∨ n = 1 ∨ n = 2 ∨ n = 3 ∨ n = 4 := by omega
  · subst hn
    show OwnG p e below s _ _ _ (s₁.setTop (mkF m 15 #[.val (.int a), .val (.int b), .val (.int c0), .val (.int d), .val (.int (0 : Int32)), .val (.int (0 : Int32)), .unset, .unset, .unset, .unset, .unset, .unset, .unset, .unset, .unset, .unset, .unset] []))
    refine own_by (fun t kk_ => XS.iload X0.here hx rfl (hb hby at_15) rfl  kk_) ?_
    show OwnG p e below s _ _ _ (s₁.setTop (mkF m 17 #[.val (.int a), .val (.int b), .val (.int c0), .val (.int d), .val (.int (0 : Int32)), .val (.int (0 : Int32)), .unset, .unset, .unset, .unset, .unset, .unset, .unset, .unset, .unset, .unset, .unset] [(.int (0 : Int32))]))
    obtain ⟨T1, h1, k1, X1, e1, E1, A1, st1⟩ := newP X0 hx hZ (hw _ (List.mem_of_getElem? (i := 1) rfl)) e0 (g := (mkF m 17 #[.val (.int a), .val (.int b), .val (.int c0), .val (.int d), .val (.int (0 : Int32)), .val (.int (0 : Int32)), .unset, .unset, .unset, .unset, .unset, .unset, .unset, .unset, .unset, .unset, .unset] [(.int (0 : Int32))])) rfl (hb hby at_17) rfl (by decide) (cap := 4) (by decide) (by decide) (by decide) (by decide)
    obtain ⟨ab, g1⟩ : ∃ z, z = h0.size := ⟨_, rfl⟩
    rw [← g1] at A1 st1
    have gg_ab : n0 ≤ ab := by rw [g1]; exact Z0
    have sz1 : n0 ≤ h1.size := Nat.le_trans Z0 E1.1
    refine own_by (fun t kk_ => st1 _ kk_) ?_
    have f2 : OwnA Z h1 ab .byte 0 (fun _ => (defaultValue .byte)) := OwnA.new A1 (n := 0) (by decide) rfl
    show OwnG p e below s _ _ _ (T1.setTop (mkF m 19 #[.val (.int a), .val (.int b), .val (.int c0), .val (.int d), .val (.int (0 : Int32)), .val (.int (0 : Int32)), .unset, .unset, .unset, .unset, .unset, .unset, .unset, .unset, .unset, .unset, .unset] [(.ref ab)]))
    refine own_by (fun t kk_ => XS.astore X1.here hx rfl (hb hby at_19) rfl rfl (l' := #[.val (.int a), .val (.int b), .val (.int c0), .val (.int d), .val (.int (0 : Int32)), .val (.int (0 : Int32)), .val (.ref ab), .unset, .unset, .unset, .unset, .unset, .unset, .unset, .unset, .unset, .unset]) rfl kk_) ?_
    show OwnG p e below s _ _ _ (T1.setTop (mkF m 21 #[.val (.int a), .val (.int b), .val (.int c0), .val (.int d), .val (.int (0 : Int32)), .val (.int (0 : Int32)), .val (.ref ab), .unset, .unset, .unset, .unset, .unset, .unset, .unset, .unset, .unset, .unset] []))
    refine own_by (fun t kk_ => XS.iload X1.here hx rfl (hb hby at_21) rfl  kk_) ?_
    show OwnG p e below s _ _ _ (T1.setTop (mkF m 23 #[.val (.int a), .val (.int b), .val (.int c0), .val (.int d), .val (.int (0 : Int32)), .val (.int (0 : Int32)), .val (.ref ab), .unset, .unset, .unset, .unset, .unset, .unset, .unset, .unset, .unset, .unset] [(.int (0 : Int32))]))
    refine own_by (fun t kk_ => XS.ifYes X1.here hx rfl (pc0 := 23) (pc' := 35) rfl (hb hby at_23) rfl ((if0 _ _).trans (flt (by decide)).2.2.2) (by decide) (by decide) kk_) ?_
    show OwnG p e below s _ _ _ (T1.setTop (mkF m 35 #[.val (.int a), .val (.int b), .val (.int c0), .val (.int d), .val (.int (0 : Int32)), .val (.int (0 : Int32)), .val (.ref ab), .unset, .unset, .unset, .unset, .unset, .unset, .unset, .unset, .unset, .unset] []))
    refine own_by (fun t kk_ => XS.iload X1.here hx rfl (hb hby at_35) rfl  kk_) ?_
    show OwnG p e below s _ _ _ (T1.setTop (mkF m 37 #[.val (.int a), .val (.int b), .val (.int c0), .val (.int d), .val (.int (0 : Int32)), .val (.int (0 : Int32)), .val (.ref ab), .unset, .unset, .unset, .unset, .unset, .unset, .unset, .unset, .unset, .unset] [(.int (0 : Int32))]))
    refine own_by (fun t kk_ => XS.iconst X1.here hx rfl (hb hby at_37) kk_) ?_
    show OwnG p e below s _ _ _ (T1.setTop (mkF m 38 #[.val (.int a), .val (.int b), .val (.int c0), .val (.int d), .val (.int (0 : Int32)), .val (.int (0 : Int32)), .val (.ref ab), .unset, .unset, .unset, .unset, .unset, .unset, .unset, .unset, .unset, .unset] [(.int (1 : Int32)), (.int (0 : Int32))]))
    refine own_by (fun t kk_ => XS.icmpYes X1.here hx rfl (pc0 := 38) (pc' := 50) rfl (hb hby at_38) rfl (flt (by decide)).2.2.2 (by decide) (by decide) kk_) ?_
    show OwnG p e below s _ _ _ (T1.setTop (mkF m 50 #[.val (.int a), .val (.int b), .val (.int c0), .val (.int d), .val (.int (0 : Int32)), .val (.int (0 : Int32)), .val (.ref ab), .unset, .unset, .unset, .unset, .unset, .unset, .unset, .unset, .unset, .unset] []))
    refine own_by (fun t kk_ => XS.iload X1.here hx rfl (hb hby at_50) rfl  kk_) ?_
    show OwnG p e below s _ _ _ (T1.setTop (mkF m 52 #[.val (.int a), .val (.int b), .val (.int c0), .val (.int d), .val (.int (0 : Int32)), .val (.int (0 : Int32)), .val (.ref ab), .unset, .unset, .unset, .unset, .unset, .unset, .unset, .unset, .unset, .unset] [(.int (0 : Int32))]))
    refine own_by (fun t kk_ => XS.iconst X1.here hx rfl (hb hby at_52) kk_) ?_
    show OwnG p e below s _ _ _ (T1.setTop (mkF m 53 #[.val (.int a), .val (.int b), .val (.int c0), .val (.int d), .val (.int (0 : Int32)), .val (.int (0 : Int32)), .val (.ref ab), .unset, .unset, .unset, .unset, .unset, .unset, .unset, .unset, .unset, .unset] [(.int (2 : Int32)), (.int (0 : Int32))]))
    refine own_by (fun t kk_ => XS.icmpYes X1.here hx rfl (pc0 := 53) (pc' := 65) rfl (hb hby at_53) rfl (flt (by decide)).2.2.2 (by decide) (by decide) kk_) ?_
    show OwnG p e below s _ _ _ (T1.setTop (mkF m 65 #[.val (.int a), .val (.int b), .val (.int c0), .val (.int d), .val (.int (0 : Int32)), .val (.int (0 : Int32)), .val (.ref ab), .unset, .unset, .unset, .unset, .unset, .unset, .unset, .unset, .unset, .unset] []))
    refine own_by (fun t kk_ => XS.iload X1.here hx rfl (hb hby at_65) rfl  kk_) ?_
    show OwnG p e below s _ _ _ (T1.setTop (mkF m 67 #[.val (.int a), .val (.int b), .val (.int c0), .val (.int d), .val (.int (0 : Int32)), .val (.int (0 : Int32)), .val (.ref ab), .unset, .unset, .unset, .unset, .unset, .unset, .unset, .unset, .unset, .unset] [(.int (0 : Int32))]))
    refine own_by (fun t kk_ => XS.iconst X1.here hx rfl (hb hby at_67) kk_) ?_
    show OwnG p e below s _ _ _ (T1.setTop (mkF m 68 #[.val (.int a), .val (.int b), .val (.int c0), .val (.int d), .val (.int (0 : Int32)), .val (.int (0 : Int32)), .val (.ref ab), .unset, .unset, .unset, .unset, .unset, .unset, .unset, .unset, .unset, .unset] [(.int (3 : Int32)), (.int (0 : Int32))]))
    refine own_by (fun t kk_ => XS.icmpYes X1.here hx rfl (pc0 := 68) (pc' := 77) rfl (hb hby at_68) rfl (flt (by decide)).2.2.2 (by decide) (by decide) kk_) ?_
    show OwnG p e below s _ _ _ (T1.setTop (mkF m 77 #[.val (.int a), .val (.int b), .val (.int c0), .val (.int d), .val (.int (0 : Int32)), .val (.int (0 : Int32)), .val (.ref ab), .unset, .unset, .unset, .unset, .unset, .unset, .unset, .unset, .unset, .unset] []))
    exact own_mid a b c0 d 0 ab X1 hx hby hml hret hlk hown hnm hZ hw e1 N0 sz1 (OwnA.congr f2 (fun i hi => by rcases i with _ | _ | _ | _ | i <;> first | omega | exact congrArg Value.int (own_b0 b) | exact congrArg Value.int (own_b1 b) | exact congrArg Value.int (own_b2 b) | exact congrArg Value.int (own_b3 b))) gg_ab (by decide)
  · subst hn
    show OwnG p e below s _ _ _ (s₁.setTop (mkF m 15 #[.val (.int a), .val (.int b), .val (.int c0), .val (.int d), .val (.int (1 : Int32)), .val (.int (8 : Int32)), .unset, .unset, .unset, .unset, .unset, .unset, .unset, .unset, .unset, .unset, .unset] []))
    refine own_by (fun t kk_ => XS.iload X0.here hx rfl (hb hby at_15) rfl  kk_) ?_
    show OwnG p e below s _ _ _ (s₁.setTop (mkF m 17 #[.val (.int a), .val (.int b), .val (.int c0), .val (.int d), .val (.int (1 : Int32)), .val (.int (8 : Int32)), .unset, .unset, .unset, .unset, .unset, .unset, .unset, .unset, .unset, .unset, .unset] [(.int (1 : Int32))]))
    obtain ⟨T3, h3, k3, X3, e3, E3, A3, st3⟩ := newP X0 hx hZ (hw _ (List.mem_of_getElem? (i := 1) rfl)) e0 (g := (mkF m 17 #[.val (.int a), .val (.int b), .val (.int c0), .val (.int d), .val (.int (1 : Int32)), .val (.int (8 : Int32)), .unset, .unset, .unset, .unset, .unset, .unset, .unset, .unset, .unset, .unset, .unset] [(.int (1 : Int32))])) rfl (hb hby at_17) rfl (by decide) (cap := 4) (by decide) (by decide) (by decide) (by decide)
    obtain ⟨ab, g3⟩ : ∃ z, z = h0.size := ⟨_, rfl⟩
    rw [← g3] at A3 st3
    have gg_ab : n0 ≤ ab := by rw [g3]; exact Z0
    have sz3 : n0 ≤ h3.size := Nat.le_trans Z0 E3.1
    refine own_by (fun t kk_ => st3 _ kk_) ?_
    have f4 : OwnA Z h3 ab .byte 1 (fun _ => (defaultValue .byte)) := OwnA.new A3 (n := 1) (by decide) rfl
    show OwnG p e below s _ _ _ (T3.setTop (mkF m 19 #[.val (.int a), .val (.int b), .val (.int c0), .val (.int d), .val (.int (1 : Int32)), .val (.int (8 : Int32)), .unset, .unset, .unset, .unset, .unset, .unset, .unset, .unset, .unset, .unset, .unset] [(.ref ab)]))
    refine own_by (fun t kk_ => XS.astore X3.here hx rfl (hb hby at_19) rfl rfl (l' := #[.val (.int a), .val (.int b), .val (.int c0), .val (.int d), .val (.int (1 : Int32)), .val (.int (8 : Int32)), .val (.ref ab), .unset, .unset, .unset, .unset, .unset, .unset, .unset, .unset, .unset, .unset]) rfl kk_) ?_
    show OwnG p e below s _ _ _ (T3.setTop (mkF m 21 #[.val (.int a), .val (.int b), .val (.int c0), .val (.int d), .val (.int (1 : Int32)), .val (.int (8 : Int32)), .val (.ref ab), .unset, .unset, .unset, .unset, .unset, .unset, .unset, .unset, .unset, .unset] []))
    refine own_by (fun t kk_ => XS.iload X3.here hx rfl (hb hby at_21) rfl  kk_) ?_
    show OwnG p e below s _ _ _ (T3.setTop (mkF m 23 #[.val (.int a), .val (.int b), .val (.int c0), .val (.int d), .val (.int (1 : Int32)), .val (.int (8 : Int32)), .val (.ref ab), .unset, .unset, .unset, .unset, .unset, .unset, .unset, .unset, .unset, .unset] [(.int (1 : Int32))]))
    refine own_by (fun t kk_ => XS.ifNo X3.here hx rfl (hb hby at_23) rfl ((if0 _ _).trans (tlt (by decide)).2.2.2) kk_) ?_
    show OwnG p e below s _ _ _ (T3.setTop (mkF m 26 #[.val (.int a), .val (.int b), .val (.int c0), .val (.int d), .val (.int (1 : Int32)), .val (.int (8 : Int32)), .val (.ref ab), .unset, .unset, .unset, .unset, .unset, .unset, .unset, .unset, .unset, .unset] []))
    refine own_by (fun t kk_ => XS.aload X3.here hx rfl (hb hby at_26) rfl rfl kk_) ?_
    show OwnG p e below s _ _ _ (T3.setTop (mkF m 28 #[.val (.int a), .val (.int b), .val (.int c0), .val (.int d), .val (.int (1 : Int32)), .val (.int (8 : Int32)), .val (.ref ab), .unset, .unset, .unset, .unset, .unset, .unset, .unset, .unset, .unset, .unset] [(.ref ab)]))
    refine own_by (fun t kk_ => XS.iconst X3.here hx rfl (hb hby at_28) kk_) ?_
    show OwnG p e below s _ _ _ (T3.setTop (mkF m 29 #[.val (.int a), .val (.int b), .val (.int c0), .val (.int d), .val (.int (1 : Int32)), .val (.int (8 : Int32)), .val (.ref ab), .unset, .unset, .unset, .unset, .unset, .unset, .unset, .unset, .unset, .unset] [(.int (0 : Int32)), (.ref ab)]))
    refine own_by (fun t kk_ => XS.iloadN X3.here hx rfl (hb hby at_29) rfl  kk_) ?_
    show OwnG p e below s _ _ _ (T3.setTop (mkF m 30 #[.val (.int a), .val (.int b), .val (.int c0), .val (.int d), .val (.int (1 : Int32)), .val (.int (8 : Int32)), .val (.ref ab), .unset, .unset, .unset, .unset, .unset, .unset, .unset, .unset, .unset, .unset] [(.int b), (.int (0 : Int32)), (.ref ab)]))
    refine own_by (fun t kk_ => XS.bipush X3.here hx rfl (hb hby at_30) kk_) ?_
    show OwnG p e below s _ _ _ (T3.setTop (mkF m 32 #[.val (.int a), .val (.int b), .val (.int c0), .val (.int d), .val (.int (1 : Int32)), .val (.int (8 : Int32)), .val (.ref ab), .unset, .unset, .unset, .unset, .unset, .unset, .unset, .unset, .unset, .unset] [(.int (24 : Int32)), (.int b), (.int (0 : Int32)), (.ref ab)]))
    refine own_by (fun t kk_ => XS.iushr X3.here hx rfl (hb hby at_32) rfl kk_) ?_
    show OwnG p e below s _ _ _ (T3.setTop (mkF m 33 #[.val (.int a), .val (.int b), .val (.int c0), .val (.int d), .val (.int (1 : Int32)), .val (.int (8 : Int32)), .val (.ref ab), .unset, .unset, .unset, .unset, .unset, .unset, .unset, .unset, .unset, .unset] [(.int ((b.toUInt32 >>> ((24 : Int32) &&& 31).toUInt32).toInt32)), (.int (0 : Int32)), (.ref ab)]))
    refine own_by (fun t kk_ => XS.i2b X3.here hx rfl (hb hby at_33) rfl kk_) ?_
    show OwnG p e below s _ _ _ (T3.setTop (mkF m 34 #[.val (.int a), .val (.int b), .val (.int c0), .val (.int d), .val (.int (1 : Int32)), .val (.int (8 : Int32)), .val (.ref ab), .unset, .unset, .unset, .unset, .unset, .unset, .unset, .unset, .unset, .unset] [(.int (((b.toUInt32 >>> ((24 : Int32) &&& 31).toUInt32).toInt32).toInt8.toInt32)), (.int (0 : Int32)), (.ref ab)]))
    obtain ⟨T5, h5, X5, e5, W5, A5, st5⟩ := own_stB X3 hx hZ e3 f4 (j := (0 : Int32)) (i := 0) ⟨by decide, rfl, by decide⟩ (g := (mkF m 34 #[.val (.int a), .val (.int b), .val (.int c0), .val (.int d), .val (.int (1 : Int32)), .val (.int (8 : Int32)), .val (.ref ab), .unset, .unset, .unset, .unset, .unset, .unset, .unset, .unset, .unset, .unset] [(.int (((b.toUInt32 >>> ((24 : Int32) &&& 31).toUInt32).toInt32).toInt8.toInt32)), (.int (0 : Int32)), (.ref ab)])) rfl rfl (hb hby at_34)
    refine own_by (fun t kk_ => st5 _ kk_) ?_
    have N5 := Fr.snoc X5 N0 gg_ab
    have sz5 : n0 ≤ h5.size := by rw [W5.size]; exact sz3
    show OwnG p e below s _ _ _ (T5.setTop (mkF m 35 #[.val (.int a), .val (.int b), .val (.int c0), .val (.int d), .val (.int (1 : Int32)), .val (.int (8 : Int32)), .val (.ref ab), .unset, .unset, .unset, .unset, .unset, .unset, .unset, .unset, .unset, .unset] []))
    refine own_by (fun t kk_ => XS.iload X5.here hx rfl (hb hby at_35) rfl  kk_) ?_
    show OwnG p e below s _ _ _ (T5.setTop (mkF m 37 #[.val (.int a), .val (.int b), .val (.int c0), .val (.int d), .val (.int (1 : Int32)), .val (.int (8 : Int32)), .val (.ref ab), .unset, .unset, .unset, .unset, .unset, .unset, .unset, .unset, .unset, .unset] [(.int (1 : Int32))]))
    refine own_by (fun t kk_ => XS.iconst X5.here hx rfl (hb hby at_37) kk_) ?_
    show OwnG p e below s _ _ _ (T5.setTop (mkF m 38 #[.val (.int a), .val (.int b), .val (.int c0), .val (.int d), .val (.int (1 : Int32)), .val (.int (8 : Int32)), .val (.ref ab), .unset, .unset, .unset, .unset, .unset, .unset, .unset, .unset, .unset, .unset] [(.int (1 : Int32)), (.int (1 : Int32))]))
    refine own_by (fun t kk_ => XS.icmpYes X5.here hx rfl (pc0 := 38) (pc' := 50) rfl (hb hby at_38) rfl (flt (by decide)).2.2.2 (by decide) (by decide) kk_) ?_
    show OwnG p e below s _ _ _ (T5.setTop (mkF m 50 #[.val (.int a), .val (.int b), .val (.int c0), .val (.int d), .val (.int (1 : Int32)), .val (.int (8 : Int32)), .val (.ref ab), .unset, .unset, .unset, .unset, .unset, .unset, .unset, .unset, .unset, .unset] []))
    refine own_by (fun t kk_ => XS.iload X5.here hx rfl (hb hby at_50) rfl  kk_) ?_
    show OwnG p e below s _ _ _ (T5.setTop (mkF m 52 #[.val (.int a), .val (.int b), .val (.int c0), .val (.int d), .val (.int (1 : Int32)), .val (.int (8 : Int32)), .val (.ref ab), .unset, .unset, .unset, .unset, .unset, .unset, .unset, .unset, .unset, .unset] [(.int (1 : Int32))]))
    refine own_by (fun t kk_ => XS.iconst X5.here hx rfl (hb hby at_52) kk_) ?_
    show OwnG p e below s _ _ _ (T5.setTop (mkF m 53 #[.val (.int a), .val (.int b), .val (.int c0), .val (.int d), .val (.int (1 : Int32)), .val (.int (8 : Int32)), .val (.ref ab), .unset, .unset, .unset, .unset, .unset, .unset, .unset, .unset, .unset, .unset] [(.int (2 : Int32)), (.int (1 : Int32))]))
    refine own_by (fun t kk_ => XS.icmpYes X5.here hx rfl (pc0 := 53) (pc' := 65) rfl (hb hby at_53) rfl (flt (by decide)).2.2.2 (by decide) (by decide) kk_) ?_
    show OwnG p e below s _ _ _ (T5.setTop (mkF m 65 #[.val (.int a), .val (.int b), .val (.int c0), .val (.int d), .val (.int (1 : Int32)), .val (.int (8 : Int32)), .val (.ref ab), .unset, .unset, .unset, .unset, .unset, .unset, .unset, .unset, .unset, .unset] []))
    refine own_by (fun t kk_ => XS.iload X5.here hx rfl (hb hby at_65) rfl  kk_) ?_
    show OwnG p e below s _ _ _ (T5.setTop (mkF m 67 #[.val (.int a), .val (.int b), .val (.int c0), .val (.int d), .val (.int (1 : Int32)), .val (.int (8 : Int32)), .val (.ref ab), .unset, .unset, .unset, .unset, .unset, .unset, .unset, .unset, .unset, .unset] [(.int (1 : Int32))]))
    refine own_by (fun t kk_ => XS.iconst X5.here hx rfl (hb hby at_67) kk_) ?_
    show OwnG p e below s _ _ _ (T5.setTop (mkF m 68 #[.val (.int a), .val (.int b), .val (.int c0), .val (.int d), .val (.int (1 : Int32)), .val (.int (8 : Int32)), .val (.ref ab), .unset, .unset, .unset, .unset, .unset, .unset, .unset, .unset, .unset, .unset] [(.int (3 : Int32)), (.int (1 : Int32))]))
    refine own_by (fun t kk_ => XS.icmpYes X5.here hx rfl (pc0 := 68) (pc' := 77) rfl (hb hby at_68) rfl (flt (by decide)).2.2.2 (by decide) (by decide) kk_) ?_
    show OwnG p e below s _ _ _ (T5.setTop (mkF m 77 #[.val (.int a), .val (.int b), .val (.int c0), .val (.int d), .val (.int (1 : Int32)), .val (.int (8 : Int32)), .val (.ref ab), .unset, .unset, .unset, .unset, .unset, .unset, .unset, .unset, .unset, .unset] []))
    exact own_mid a b c0 d 1 ab X5 hx hby hml hret hlk hown hnm hZ hw e5 N5 sz5 (OwnA.congr A5 (fun i hi => by rcases i with _ | _ | _ | _ | i <;> first | omega | exact congrArg Value.int (own_b0 b) | exact congrArg Value.int (own_b1 b) | exact congrArg Value.int (own_b2 b) | exact congrArg Value.int (own_b3 b))) gg_ab (by decide)
  · subst hn
    show OwnG p e below s _ _ _ (s₁.setTop (mkF m 15 #[.val (.int a), .val (.int b), .val (.int c0), .val (.int d), .val (.int (2 : Int32)), .val (.int (16 : Int32)), .unset, .unset, .unset, .unset, .unset, .unset, .unset, .unset, .unset, .unset, .unset] []))
    refine own_by (fun t kk_ => XS.iload X0.here hx rfl (hb hby at_15) rfl  kk_) ?_
    show OwnG p e below s _ _ _ (s₁.setTop (mkF m 17 #[.val (.int a), .val (.int b), .val (.int c0), .val (.int d), .val (.int (2 : Int32)), .val (.int (16 : Int32)), .unset, .unset, .unset, .unset, .unset, .unset, .unset, .unset, .unset, .unset, .unset] [(.int (2 : Int32))]))
    obtain ⟨T7, h7, k7, X7, e7, E7, A7, st7⟩ := newP X0 hx hZ (hw _ (List.mem_of_getElem? (i := 1) rfl)) e0 (g := (mkF m 17 #[.val (.int a), .val (.int b), .val (.int c0), .val (.int d), .val (.int (2 : Int32)), .val (.int (16 : Int32)), .unset, .unset, .unset, .unset, .unset, .unset, .unset, .unset, .unset, .unset, .unset] [(.int (2 : Int32))])) rfl (hb hby at_17) rfl (by decide) (cap := 4) (by decide) (by decide) (by decide) (by decide)
    obtain ⟨ab, g7⟩ : ∃ z, z = h0.size := ⟨_, rfl⟩
    rw [← g7] at A7 st7
    have gg_ab : n0 ≤ ab := by rw [g7]; exact Z0
    have sz7 : n0 ≤ h7.size := Nat.le_trans Z0 E7.1
    refine own_by (fun t kk_ => st7 _ kk_) ?_
    have f8 : OwnA Z h7 ab .byte 2 (fun _ => (defaultValue .byte)) := OwnA.new A7 (n := 2) (by decide) rfl
    show OwnG p e below s _ _ _ (T7.setTop (mkF m 19 #[.val (.int a), .val (.int b), .val (.int c0), .val (.int d), .val (.int (2 : Int32)), .val (.int (16 : Int32)), .unset, .unset, .unset, .unset, .unset, .unset, .unset, .unset, .unset, .unset, .unset] [(.ref ab)]))
    refine own_by (fun t kk_ => XS.astore X7.here hx rfl (hb hby at_19) rfl rfl (l' := #[.val (.int a), .val (.int b), .val (.int c0), .val (.int d), .val (.int (2 : Int32)), .val (.int (16 : Int32)), .val (.ref ab), .unset, .unset, .unset, .unset, .unset, .unset, .unset, .unset, .unset, .unset]) rfl kk_) ?_
    show OwnG p e below s _ _ _ (T7.setTop (mkF m 21 #[.val (.int a), .val (.int b), .val (.int c0), .val (.int d), .val (.int (2 : Int32)), .val (.int (16 : Int32)), .val (.ref ab), .unset, .unset, .unset, .unset, .unset, .unset, .unset, .unset, .unset, .unset] []))
    refine own_by (fun t kk_ => XS.iload X7.here hx rfl (hb hby at_21) rfl  kk_) ?_
    show OwnG p e below s _ _ _ (T7.setTop (mkF m 23 #[.val (.int a), .val (.int b), .val (.int c0), .val (.int d), .val (.int (2 : Int32)), .val (.int (16 : Int32)), .val (.ref ab), .unset, .unset, .unset, .unset, .unset, .unset, .unset, .unset, .unset, .unset] [(.int (2 : Int32))]))
    refine own_by (fun t kk_ => XS.ifNo X7.here hx rfl (hb hby at_23) rfl ((if0 _ _).trans (tlt (by decide)).2.2.2) kk_) ?_
    show OwnG p e below s _ _ _ (T7.setTop (mkF m 26 #[.val (.int a), .val (.int b), .val (.int c0), .val (.int d), .val (.int (2 : Int32)), .val (.int (16 : Int32)), .val (.ref ab), .unset, .unset, .unset, .unset, .unset, .unset, .unset, .unset, .unset, .unset] []))
    refine own_by (fun t kk_ => XS.aload X7.here hx rfl (hb hby at_26) rfl rfl kk_) ?_
    show OwnG p e below s _ _ _ (T7.setTop (mkF m 28 #[.val (.int a), .val (.int b), .val (.int c0), .val (.int d), .val (.int (2 : Int32)), .val (.int (16 : Int32)), .val (.ref ab), .unset, .unset, .unset, .unset, .unset, .unset, .unset, .unset, .unset, .unset] [(.ref ab)]))
    refine own_by (fun t kk_ => XS.iconst X7.here hx rfl (hb hby at_28) kk_) ?_
    show OwnG p e below s _ _ _ (T7.setTop (mkF m 29 #[.val (.int a), .val (.int b), .val (.int c0), .val (.int d), .val (.int (2 : Int32)), .val (.int (16 : Int32)), .val (.ref ab), .unset, .unset, .unset, .unset, .unset, .unset, .unset, .unset, .unset, .unset] [(.int (0 : Int32)), (.ref ab)]))
    refine own_by (fun t kk_ => XS.iloadN X7.here hx rfl (hb hby at_29) rfl  kk_) ?_
    show OwnG p e below s _ _ _ (T7.setTop (mkF m 30 #[.val (.int a), .val (.int b), .val (.int c0), .val (.int d), .val (.int (2 : Int32)), .val (.int (16 : Int32)), .val (.ref ab), .unset, .unset, .unset, .unset, .unset, .unset, .unset, .unset, .unset, .unset] [(.int b), (.int (0 : Int32)), (.ref ab)]))
    refine own_by (fun t kk_ => XS.bipush X7.here hx rfl (hb hby at_30) kk_) ?_
    show OwnG p e below s _ _ _ (T7.setTop (mkF m 32 #[.val (.int a), .val (.int b), .val (.int c0), .val (.int d), .val (.int (2 : Int32)), .val (.int (16 : Int32)), .val (.ref ab), .unset, .unset, .unset, .unset, .unset, .unset, .unset, .unset, .unset, .unset] [(.int (24 : Int32)), (.int b), (.int (0 : Int32)), (.ref ab)]))
    refine own_by (fun t kk_ => XS.iushr X7.here hx rfl (hb hby at_32) rfl kk_) ?_
    show OwnG p e below s _ _ _ (T7.setTop (mkF m 33 #[.val (.int a), .val (.int b), .val (.int c0), .val (.int d), .val (.int (2 : Int32)), .val (.int (16 : Int32)), .val (.ref ab), .unset, .unset, .unset, .unset, .unset, .unset, .unset, .unset, .unset, .unset] [(.int ((b.toUInt32 >>> ((24 : Int32) &&& 31).toUInt32).toInt32)), (.int (0 : Int32)), (.ref ab)]))
    refine own_by (fun t kk_ => XS.i2b X7.here hx rfl (hb hby at_33) rfl kk_) ?_
    show OwnG p e below s _ _ _ (T7.setTop (mkF m 34 #[.val (.int a), .val (.int b), .val (.int c0), .val (.int d), .val (.int (2 : Int32)), .val (.int (16 : Int32)), .val (.ref ab), .unset, .unset, .unset, .unset, .unset, .unset, .unset, .unset, .unset, .unset] [(.int (((b.toUInt32 >>> ((24 : Int32) &&& 31).toUInt32).toInt32).toInt8.toInt32)), (.int (0 : Int32)), (.ref ab)]))
    obtain ⟨T9, h9, X9, e9, W9, A9, st9⟩ := own_stB X7 hx hZ e7 f8 (j := (0 : Int32)) (i := 0) ⟨by decide, rfl, by decide⟩ (g := (mkF m 34 #[.val (.int a), .val (.int b), .val (.int c0), .val (.int d), .val (.int (2 : Int32)), .val (.int (16 : Int32)), .val (.ref ab), .unset, .unset, .unset, .unset, .unset, .unset, .unset, .unset, .unset, .unset] [(.int (((b.toUInt32 >>> ((24 : Int32) &&& 31).toUInt32).toInt32).toInt8.toInt32)), (.int (0 : Int32)), (.ref ab)])) rfl rfl (hb hby at_34)
    refine own_by (fun t kk_ => st9 _ kk_) ?_
    have N9 := Fr.snoc X9 N0 gg_ab
    have sz9 : n0 ≤ h9.size := by rw [W9.size]; exact sz7
    show OwnG p e below s _ _ _ (T9.setTop (mkF m 35 #[.val (.int a), .val (.int b), .val (.int c0), .val (.int d), .val (.int (2 : Int32)), .val (.int (16 : Int32)), .val (.ref ab), .unset, .unset, .unset, .unset, .unset, .unset, .unset, .unset, .unset, .unset] []))
    refine own_by (fun t kk_ => XS.iload X9.here hx rfl (hb hby at_35) rfl  kk_) ?_
    show OwnG p e below s _ _ _ (T9.setTop (mkF m 37 #[.val (.int a), .val (.int b), .val (.int c0), .val (.int d), .val (.int (2 : Int32)), .val (.int (16 : Int32)), .val (.ref ab), .unset, .unset, .unset, .unset, .unset, .unset, .unset, .unset, .unset, .unset] [(.int (2 : Int32))]))
    refine own_by (fun t kk_ => XS.iconst X9.here hx rfl (hb hby at_37) kk_) ?_
    show OwnG p e below s _ _ _ (T9.setTop (mkF m 38 #[.val (.int a), .val (.int b), .val (.int c0), .val (.int d), .val (.int (2 : Int32)), .val (.int (16 : Int32)), .val (.ref ab), .unset, .unset, .unset, .unset, .unset, .unset, .unset, .unset, .unset, .unset] [(.int (1 : Int32)), (.int (2 : Int32))]))
    refine own_by (fun t kk_ => XS.icmpNo X9.here hx rfl (hb hby at_38) rfl (tlt (by decide)).2.2.2 kk_) ?_
    show OwnG p e below s _ _ _ (T9.setTop (mkF m 41 #[.val (.int a), .val (.int b), .val (.int c0), .val (.int d), .val (.int (2 : Int32)), .val (.int (16 : Int32)), .val (.ref ab), .unset, .unset, .unset, .unset, .unset, .unset, .unset, .unset, .unset, .unset] []))
    refine own_by (fun t kk_ => XS.aload X9.here hx rfl (hb hby at_41) rfl rfl kk_) ?_
    show OwnG p e below s _ _ _ (T9.setTop (mkF m 43 #[.val (.int a), .val (.int b), .val (.int c0), .val (.int d), .val (.int (2 : Int32)), .val (.int (16 : Int32)), .val (.ref ab), .unset, .unset, .unset, .unset, .unset, .unset, .unset, .unset, .unset, .unset] [(.ref ab)]))
    refine own_by (fun t kk_ => XS.iconst X9.here hx rfl (hb hby at_43) kk_) ?_
    show OwnG p e below s _ _ _ (T9.setTop (mkF m 44 #[.val (.int a), .val (.int b), .val (.int c0), .val (.int d), .val (.int (2 : Int32)), .val (.int (16 : Int32)), .val (.ref ab), .unset, .unset, .unset, .unset, .unset, .unset, .unset, .unset, .unset, .unset] [(.int (1 : Int32)), (.ref ab)]))
    refine own_by (fun t kk_ => XS.iloadN X9.here hx rfl (hb hby at_44) rfl  kk_) ?_
    show OwnG p e below s _ _ _ (T9.setTop (mkF m 45 #[.val (.int a), .val (.int b), .val (.int c0), .val (.int d), .val (.int (2 : Int32)), .val (.int (16 : Int32)), .val (.ref ab), .unset, .unset, .unset, .unset, .unset, .unset, .unset, .unset, .unset, .unset] [(.int b), (.int (1 : Int32)), (.ref ab)]))
    refine own_by (fun t kk_ => XS.bipush X9.here hx rfl (hb hby at_45) kk_) ?_
    show OwnG p e below s _ _ _ (T9.setTop (mkF m 47 #[.val (.int a), .val (.int b), .val (.int c0), .val (.int d), .val (.int (2 : Int32)), .val (.int (16 : Int32)), .val (.ref ab), .unset, .unset, .unset, .unset, .unset, .unset, .unset, .unset, .unset, .unset] [(.int (16 : Int32)), (.int b), (.int (1 : Int32)), (.ref ab)]))
    refine own_by (fun t kk_ => XS.iushr X9.here hx rfl (hb hby at_47) rfl kk_) ?_
    show OwnG p e below s _ _ _ (T9.setTop (mkF m 48 #[.val (.int a), .val (.int b), .val (.int c0), .val (.int d), .val (.int (2 : Int32)), .val (.int (16 : Int32)), .val (.ref ab), .unset, .unset, .unset, .unset, .unset, .unset, .unset, .unset, .unset, .unset] [(.int ((b.toUInt32 >>> ((16 : Int32) &&& 31).toUInt32).toInt32)), (.int (1 : Int32)), (.ref ab)]))
    refine own_by (fun t kk_ => XS.i2b X9.here hx rfl (hb hby at_48) rfl kk_) ?_
    show OwnG p e below s _ _ _ (T9.setTop (mkF m 49 #[.val (.int a), .val (.int b), .val (.int c0), .val (.int d), .val (.int (2 : Int32)), .val (.int (16 : Int32)), .val (.ref ab), .unset, .unset, .unset, .unset, .unset, .unset, .unset, .unset, .unset, .unset] [(.int (((b.toUInt32 >>> ((16 : Int32) &&& 31).toUInt32).toInt32).toInt8.toInt32)), (.int (1 : Int32)), (.ref ab)]))
    obtain ⟨T11, h11, X11, e11, W11, A11, st11⟩ := own_stB X9 hx hZ e9 A9 (j := (1 : Int32)) (i := 1) ⟨by decide, rfl, by decide⟩ (g := (mkF m 49 #[.val (.int a), .val (.int b), .val (.int c0), .val (.int d), .val (.int (2 : Int32)), .val (.int (16 : Int32)), .val (.ref ab), .unset, .unset, .unset, .unset, .unset, .unset, .unset, .unset, .unset, .unset] [(.int (((b.toUInt32 >>> ((16 : Int32) &&& 31).toUInt32).toInt32).toInt8.toInt32)), (.int (1 : Int32)), (.ref ab)])) rfl rfl (hb hby at_49)
    refine own_by (fun t kk_ => st11 _ kk_) ?_
    have N11 := Fr.snoc X11 N9 gg_ab
    have sz11 : n0 ≤ h11.size := by rw [W11.size]; exact sz9
    show OwnG p e below s _ _ _ (T11.setTop (mkF m 50 #[.val (.int a), .val (.int b), .val (.int c0), .val (.int d), .val (.int (2 : Int32)), .val (.int (16 : Int32)), .val (.ref ab), .unset, .unset, .unset, .unset, .unset, .unset, .unset, .unset, .unset, .unset] []))
    refine own_by (fun t kk_ => XS.iload X11.here hx rfl (hb hby at_50) rfl  kk_) ?_
    show OwnG p e below s _ _ _ (T11.setTop (mkF m 52 #[.val (.int a), .val (.int b), .val (.int c0), .val (.int d), .val (.int (2 : Int32)), .val (.int (16 : Int32)), .val (.ref ab), .unset, .unset, .unset, .unset, .unset, .unset, .unset, .unset, .unset, .unset] [(.int (2 : Int32))]))
    refine own_by (fun t kk_ => XS.iconst X11.here hx rfl (hb hby at_52) kk_) ?_
    show OwnG p e below s _ _ _ (T11.setTop (mkF m 53 #[.val (.int a), .val (.int b), .val (.int c0), .val (.int d), .val (.int (2 : Int32)), .val (.int (16 : Int32)), .val (.ref ab), .unset, .unset, .unset, .unset, .unset, .unset, .unset, .unset, .unset, .unset] [(.int (2 : Int32)), (.int (2 : Int32))]))
    refine own_by (fun t kk_ => XS.icmpYes X11.here hx rfl (pc0 := 53) (pc' := 65) rfl (hb hby at_53) rfl (flt (by decide)).2.2.2 (by decide) (by decide) kk_) ?_
    show OwnG p e below s _ _ _ (T11.setTop (mkF m 65 #[.val (.int a), .val (.int b), .val (.int c0), .val (.int d), .val (.int (2 : Int32)), .val (.int (16 : Int32)), .val (.ref ab), .unset, .unset, .unset, .unset, .unset, .unset, .unset, .unset, .unset, .unset] []))
    refine own_by (fun t kk_ => XS.iload X11.here hx rfl (hb hby at_65) rfl  kk_) ?_
    show OwnG p e below s _ _ _ (T11.setTop (mkF m 67 #[.val (.int a), .val (.int b), .val (.int c0), .val (.int d), .val (.int (2 : Int32)), .val (.int (16 : Int32)), .val (.ref ab), .unset, .unset, .unset, .unset, .unset, .unset, .unset, .unset, .unset, .unset] [(.int (2 : Int32))]))
    refine own_by (fun t kk_ => XS.iconst X11.here hx rfl (hb hby at_67) kk_) ?_
    show OwnG p e below s _ _ _ (T11.setTop (mkF m 68 #[.val (.int a), .val (.int b), .val (.int c0), .val (.int d), .val (.int (2 : Int32)), .val (.int (16 : Int32)), .val (.ref ab), .unset, .unset, .unset, .unset, .unset, .unset, .unset, .unset, .unset, .unset] [(.int (3 : Int32)), (.int (2 : Int32))]))
    refine own_by (fun t kk_ => XS.icmpYes X11.here hx rfl (pc0 := 68) (pc' := 77) rfl (hb hby at_68) rfl (flt (by decide)).2.2.2 (by decide) (by decide) kk_) ?_
    show OwnG p e below s _ _ _ (T11.setTop (mkF m 77 #[.val (.int a), .val (.int b), .val (.int c0), .val (.int d), .val (.int (2 : Int32)), .val (.int (16 : Int32)), .val (.ref ab), .unset, .unset, .unset, .unset, .unset, .unset, .unset, .unset, .unset, .unset] []))
    exact own_mid a b c0 d 2 ab X11 hx hby hml hret hlk hown hnm hZ hw e11 N11 sz11 (OwnA.congr A11 (fun i hi => by rcases i with _ | _ | _ | _ | i <;> first | omega | exact congrArg Value.int (own_b0 b) | exact congrArg Value.int (own_b1 b) | exact congrArg Value.int (own_b2 b) | exact congrArg Value.int (own_b3 b))) gg_ab (by decide)
  · subst hn
    show OwnG p e below s _ _ _ (s₁.setTop (mkF m 15 #[.val (.int a), .val (.int b), .val (.int c0), .val (.int d), .val (.int (3 : Int32)), .val (.int (24 : Int32)), .unset, .unset, .unset, .unset, .unset, .unset, .unset, .unset, .unset, .unset, .unset] []))
    refine own_by (fun t kk_ => XS.iload X0.here hx rfl (hb hby at_15) rfl  kk_) ?_
    show OwnG p e below s _ _ _ (s₁.setTop (mkF m 17 #[.val (.int a), .val (.int b), .val (.int c0), .val (.int d), .val (.int (3 : Int32)), .val (.int (24 : Int32)), .unset, .unset, .unset, .unset, .unset, .unset, .unset, .unset, .unset, .unset, .unset] [(.int (3 : Int32))]))
    obtain ⟨T13, h13, k13, X13, e13, E13, A13, st13⟩ := newP X0 hx hZ (hw _ (List.mem_of_getElem? (i := 1) rfl)) e0 (g := (mkF m 17 #[.val (.int a), .val (.int b), .val (.int c0), .val (.int d), .val (.int (3 : Int32)), .val (.int (24 : Int32)), .unset, .unset, .unset, .unset, .unset, .unset, .unset, .unset, .unset, .unset, .unset] [(.int (3 : Int32))])) rfl (hb hby at_17) rfl (by decide) (cap := 4) (by decide) (by decide) (by decide) (by decide)
    obtain ⟨ab, g13⟩ : ∃ z, z = h0.size := ⟨_, rfl⟩
    rw [← g13] at A13 st13
    have gg_ab : n0 ≤ ab := by rw [g13]; exact Z0
    have sz13 : n0 ≤ h13.size := Nat.le_trans Z0 E13.1
    refine own_by (fun t kk_ => st13 _ kk_) ?_
    have f14 : OwnA Z h13 ab .byte 3 (fun _ => (defaultValue .byte)) := OwnA.new A13 (n := 3) (by decide) rfl
    show OwnG p e below s _ _ _ (T13.setTop (mkF m 19 #[.val (.int a), .val (.int b), .val (.int c0), .val (.int d), .val (.int (3 : Int32)), .val (.int (24 : Int32)), .unset, .unset, .unset, .unset, .unset, .unset, .unset, .unset, .unset, .unset, .unset] [(.ref ab)]))
    refine own_by (fun t kk_ => XS.astore X13.here hx rfl (hb hby at_19) rfl rfl (l' := #[.val (.int a), .val (.int b), .val (.int c0), .val (.int d), .val (.int (3 : Int32)), .val (.int (24 : Int32)), .val (.ref ab), .unset, .unset, .unset, .unset, .unset, .unset, .unset, .unset, .unset, .unset]) rfl kk_) ?_
    show OwnG p e below s _ _ _ (T13.setTop (mkF m 21 #[.val (.int a), .val (.int b), .val (.int c0), .val (.int d), .val (.int (3 : Int32)), .val (.int (24 : Int32)), .val (.ref ab), .unset, .unset, .unset, .unset, .unset, .unset, .unset, .unset, .unset, .unset] []))
    refine own_by (fun t kk_ => XS.iload X13.here hx rfl (hb hby at_21) rfl  kk_) ?_
    show OwnG p e below s _ _ _ (T13.setTop (mkF m 23 #[.val (.int a), .val (.int b), .val (.int c0), .val (.int d), .val (.int (3 : Int32)), .val (.int (24 : Int32)), .val (.ref ab), .unset, .unset, .unset, .unset, .unset, .unset, .unset, .unset, .unset, .unset] [(.int (3 : Int32))]))
    refine own_by (fun t kk_ => XS.ifNo X13.here hx rfl (hb hby at_23) rfl ((if0 _ _).trans (tlt (by decide)).2.2.2) kk_) ?_
    show OwnG p e below s _ _ _ (T13.setTop (mkF m 26 #[.val (.int a), .val (.int b), .val (.int c0), .val (.int d), .val (.int (3 : Int32)), .val (.int (24 : Int32)), .val (.ref ab), .unset, .unset, .unset, .unset, .unset, .unset, .unset, .unset, .unset, .unset] []))
    refine own_by (fun t kk_ => XS.aload X13.here hx rfl (hb hby at_26) rfl rfl kk_) ?_
    show OwnG p e below s _ _ _ (T13.setTop (mkF m 28 #[.val (.int a), .val (.int b), .val (.int c0), .val (.int d), .val (.int (3 : Int32)), .val (.int (24 : Int32)), .val (.ref ab), .unset, .unset, .unset, .unset, .unset, .unset, .unset, .unset, .unset, .unset] [(.ref ab)]))
    refine own_by (fun t kk_ => XS.iconst X13.here hx rfl (hb hby at_28) kk_) ?_
    show OwnG p e below s _ _ _ (T13.setTop (mkF m 29 #[.val (.int a), .val (.int b), .val (.int c0), .val (.int d), .val (.int (3 : Int32)), .val (.int (24 : Int32)), .val (.ref ab), .unset, .unset, .unset, .unset, .unset, .unset, .unset, .unset, .unset, .unset] [(.int (0 : Int32)), (.ref ab)]))
    refine own_by (fun t kk_ => XS.iloadN X13.here hx rfl (hb hby at_29) rfl  kk_) ?_
    show OwnG p e below s _ _ _ (T13.setTop (mkF m 30 #[.val (.int a), .val (.int b), .val (.int c0), .val (.int d), .val (.int (3 : Int32)), .val (.int (24 : Int32)), .val (.ref ab), .unset, .unset, .unset, .unset, .unset, .unset, .unset, .unset, .unset, .unset] [(.int b), (.int (0 : Int32)), (.ref ab)]))
    refine own_by (fun t kk_ => XS.bipush X13.here hx rfl (hb hby at_30) kk_) ?_
    show OwnG p e below s _ _ _ (T13.setTop (mkF m 32 #[.val (.int a), .val (.int b), .val (.int c0), .val (.int d), .val (.int (3 : Int32)), .val (.int (24 : Int32)), .val (.ref ab), .unset, .unset, .unset, .unset, .unset, .unset, .unset, .unset, .unset, .unset] [(.int (24 : Int32)), (.int b), (.int (0 : Int32)), (.ref ab)]))
    refine own_by (fun t kk_ => XS.iushr X13.here hx rfl (hb hby at_32) rfl kk_) ?_
    show OwnG p e below s _ _ _ (T13.setTop (mkF m 33 #[.val (.int a), .val (.int b), .val (.int c0), .val (.int d), .val (.int (3 : Int32)), .val (.int (24 : Int32)), .val (.ref ab), .unset, .unset, .unset, .unset, .unset, .unset, .unset, .unset, .unset, .unset] [(.int ((b.toUInt32 >>> ((24 : Int32) &&& 31).toUInt32).toInt32)), (.int (0 : Int32)), (.ref ab)]))
    refine own_by (fun t kk_ => XS.i2b X13.here hx rfl (hb hby at_33) rfl kk_) ?_
    show OwnG p e below s _ _ _ (T13.setTop (mkF m 34 #[.val (.int a), .val (.int b), .val (.int c0), .val (.int d), .val (.int (3 : Int32)), .val (.int (24 : Int32)), .val (.ref ab), .unset, .unset, .unset, .unset, .unset, .unset, .unset, .unset, .unset, .unset] [(.int (((b.toUInt32 >>> ((24 : Int32) &&& 31).toUInt32).toInt32).toInt8.toInt32)), (.int (0 : Int32)), (.ref ab)]))
    obtain ⟨T15, h15, X15, e15, W15, A15, st15⟩ := own_stB X13 hx hZ e13 f14 (j := (0 : Int32)) (i := 0) ⟨by decide, rfl, by decide⟩ (g := (mkF m 34 #[.val (.int a), .val (.int b), .val (.int c0), .val (.int d), .val (.int (3 : Int32)), .val (.int (24 : Int32)), .val (.ref ab), .unset, .unset, .unset, .unset, .unset, .unset, .unset, .unset, .unset, .unset] [(.int (((b.toUInt32 >>> ((24 : Int32) &&& 31).toUInt32).toInt32).toInt8.toInt32)), (.int (0 : Int32)), (.ref ab)])) rfl rfl (hb hby at_34)
    refine own_by (fun t kk_ => st15 _ kk_) ?_
    have N15 := Fr.snoc X15 N0 gg_ab
    have sz15 : n0 ≤ h15.size := by rw [W15.size]; exact sz13
    show OwnG p e below s _ _ _ (T15.setTop (mkF m 35 #[.val (.int a), .val (.int b), .val (.int c0), .val (.int d), .val (.int (3 : Int32)), .val (.int (24 : Int32)), .val (.ref ab), .unset, .unset, .unset, .unset, .unset, .unset, .unset, .unset, .unset, .unset] []))
    refine own_by (fun t kk_ => XS.iload X15.here hx rfl (hb hby at_35) rfl  kk_) ?_
    show OwnG p e below s _ _ _ (T15.setTop (mkF m 37 #[.val (.int a), .val (.int b), .val (.int c0), .val (.int d), .val (.int (3 : Int32)), .val (.int (24 : Int32)), .val (.ref ab), .unset, .unset, .unset, .unset, .unset, .unset, .unset, .unset, .unset, .unset] [(.int (3 : Int32))]))
    refine own_by (fun t kk_ => XS.iconst X15.here hx rfl (hb hby at_37) kk_) ?_
    show OwnG p e below s _ _ _ (T15.setTop (mkF m 38 #[.val (.int a), .val (.int b), .val (.int c0), .val (.int d), .val (.int (3 : Int32)), .val (.int (24 : Int32)), .val (.ref ab), .unset, .unset, .unset, .unset, .unset, .unset, .unset, .unset, .unset, .unset] [(.int (1 : Int32)), (.int (3 : Int32))]))
    refine own_by (fun t kk_ => XS.icmpNo X15.here hx rfl (hb hby at_38) rfl (tlt (by decide)).2.2.2 kk_) ?_
    show OwnG p e below s _ _ _ (T15.setTop (mkF m 41 #[.val (.int a), .val (.int b), .val (.int c0), .val (.int d), .val (.int (3 : Int32)), .val (.int (24 : Int32)), .val (.ref ab), .unset, .unset, .unset, .unset, .unset, .unset, .unset, .unset, .unset, .unset] []))
    refine own_by (fun t kk_ => XS.aload X15.here hx rfl (hb hby at_41) rfl rfl kk_) ?_
    show OwnG p e below s _ _ _ (T15.setTop (mkF m 43 #[.val (.int a), .val (.int b), .val (.int c0), .val (.int d), .val (.int (3 : Int32)), .val (.int (24 : Int32)), .val (.ref ab), .unset, .unset, .unset, .unset, .unset, .unset, .unset, .unset, .unset, .unset] [(.ref ab)]))
    refine own_by (fun t kk_ => XS.iconst X15.here hx rfl (hb hby at_43) kk_) ?_
    show OwnG p e below s _ _ _ (T15.setTop (mkF m 44 #[.val (.int a), .val (.int b), .val (.int c0), .val (.int d), .val (.int (3 : Int32)), .val (.int (24 : Int32)), .val (.ref ab), .unset, .unset, .unset, .unset, .unset, .unset, .unset, .unset, .unset, .unset] [(.int (1 : Int32)), (.ref ab)]))
    refine own_by (fun t kk_ => XS.iloadN X15.here hx rfl (hb hby at_44) rfl  kk_) ?_
    show OwnG p e below s _ _ _ (T15.setTop (mkF m 45 #[.val (.int a), .val (.int b), .val (.int c0), .val (.int d), .val (.int (3 : Int32)), .val (.int (24 : Int32)), .val (.ref ab), .unset, .unset, .unset, .unset, .unset, .unset, .unset, .unset, .unset, .unset] [(.int b), (.int (1 : Int32)), (.ref ab)]))
    refine own_by (fun t kk_ => XS.bipush X15.here hx rfl (hb hby at_45) kk_) ?_
    show OwnG p e below s _ _ _ (T15.setTop (mkF m 47 #[.val (.int a), .val (.int b), .val (.int c0), .val (.int d), .val (.int (3 : Int32)), .val (.int (24 : Int32)), .val (.ref ab), .unset, .unset, .unset, .unset, .unset, .unset, .unset, .unset, .unset, .unset] [(.int (16 : Int32)), (.int b), (.int (1 : Int32)), (.ref ab)]))
    refine own_by (fun t kk_ => XS.iushr X15.here hx rfl (hb hby at_47) rfl kk_) ?_
    show OwnG p e below s _ _ _ (T15.setTop (mkF m 48 #[.val (.int a), .val (.int b), .val (.int c0), .val (.int d), .val (.int (3 : Int32)), .val (.int (24 : Int32)), .val (.ref ab), .unset, .unset, .unset, .unset, .unset, .unset, .unset, .unset, .unset, .unset] [(.int ((b.toUInt32 >>> ((16 : Int32) &&& 31).toUInt32).toInt32)), (.int (1 : Int32)), (.ref ab)]))
    refine own_by (fun t kk_ => XS.i2b X15.here hx rfl (hb hby at_48) rfl kk_) ?_
    show OwnG p e below s _ _ _ (T15.setTop (mkF m 49 #[.val (.int a), .val (.int b), .val (.int c0), .val (.int d), .val (.int (3 : Int32)), .val (.int (24 : Int32)), .val (.ref ab), .unset, .unset, .unset, .unset, .unset, .unset, .unset, .unset, .unset, .unset] [(.int (((b.toUInt32 >>> ((16 : Int32) &&& 31).toUInt32).toInt32).toInt8.toInt32)), (.int (1 : Int32)), (.ref ab)]))
    obtain ⟨T17, h17, X17, e17, W17, A17, st17⟩ := own_stB X15 hx hZ e15 A15 (j := (1 : Int32)) (i := 1) ⟨by decide, rfl, by decide⟩ (g := (mkF m 49 #[.val (.int a), .val (.int b), .val (.int c0), .val (.int d), .val (.int (3 : Int32)), .val (.int (24 : Int32)), .val (.ref ab), .unset, .unset, .unset, .unset, .unset, .unset, .unset, .unset, .unset, .unset] [(.int (((b.toUInt32 >>> ((16 : Int32) &&& 31).toUInt32).toInt32).toInt8.toInt32)), (.int (1 : Int32)), (.ref ab)])) rfl rfl (hb hby at_49)
    refine own_by (fun t kk_ => st17 _ kk_) ?_
    have N17 := Fr.snoc X17 N15 gg_ab
    have sz17 : n0 ≤ h17.size := by rw [W17.size]; exact sz15
    show OwnG p e below s _ _ _ (T17.setTop (mkF m 50 #[.val (.int a), .val (.int b), .val (.int c0), .val (.int d), .val (.int (3 : Int32)), .val (.int (24 : Int32)), .val (.ref ab), .unset, .unset, .unset, .unset, .unset, .unset, .unset, .unset, .unset, .unset] []))
    refine own_by (fun t kk_ => XS.iload X17.here hx rfl (hb hby at_50) rfl  kk_) ?_
    show OwnG p e below s _ _ _ (T17.setTop (mkF m 52 #[.val (.int a), .val (.int b), .val (.int c0), .val (.int d), .val (.int (3 : Int32)), .val (.int (24 : Int32)), .val (.ref ab), .unset, .unset, .unset, .unset, .unset, .unset, .unset, .unset, .unset, .unset] [(.int (3 : Int32))]))
    refine own_by (fun t kk_ => XS.iconst X17.here hx rfl (hb hby at_52) kk_) ?_
    show OwnG p e below s _ _ _ (T17.setTop (mkF m 53 #[.val (.int a), .val (.int b), .val (.int c0), .val (.int d), .val (.int (3 : Int32)), .val (.int (24 : Int32)), .val (.ref ab), .unset, .unset, .unset, .unset, .unset, .unset, .unset, .unset, .unset, .unset] [(.int (2 : Int32)), (.int (3 : Int32))]))
    refine own_by (fun t kk_ => XS.icmpNo X17.here hx rfl (hb hby at_53) rfl (tlt (by decide)).2.2.2 kk_) ?_
    show OwnG p e below s _ _ _ (T17.setTop (mkF m 56 #[.val (.int a), .val (.int b), .val (.int c0), .val (.int d), .val (.int (3 : Int32)), .val (.int (24 : Int32)), .val (.ref ab), .unset, .unset, .unset, .unset, .unset, .unset, .unset, .unset, .unset, .unset] []))
    refine own_by (fun t kk_ => XS.aload X17.here hx rfl (hb hby at_56) rfl rfl kk_) ?_
    show OwnG p e below s _ _ _ (T17.setTop (mkF m 58 #[.val (.int a), .val (.int b), .val (.int c0), .val (.int d), .val (.int (3 : Int32)), .val (.int (24 : Int32)), .val (.ref ab), .unset, .unset, .unset, .unset, .unset, .unset, .unset, .unset, .unset, .unset] [(.ref ab)]))
    refine own_by (fun t kk_ => XS.iconst X17.here hx rfl (hb hby at_58) kk_) ?_
    show OwnG p e below s _ _ _ (T17.setTop (mkF m 59 #[.val (.int a), .val (.int b), .val (.int c0), .val (.int d), .val (.int (3 : Int32)), .val (.int (24 : Int32)), .val (.ref ab), .unset, .unset, .unset, .unset, .unset, .unset, .unset, .unset, .unset, .unset] [(.int (2 : Int32)), (.ref ab)]))
    refine own_by (fun t kk_ => XS.iloadN X17.here hx rfl (hb hby at_59) rfl  kk_) ?_
    show OwnG p e below s _ _ _ (T17.setTop (mkF m 60 #[.val (.int a), .val (.int b), .val (.int c0), .val (.int d), .val (.int (3 : Int32)), .val (.int (24 : Int32)), .val (.ref ab), .unset, .unset, .unset, .unset, .unset, .unset, .unset, .unset, .unset, .unset] [(.int b), (.int (2 : Int32)), (.ref ab)]))
    refine own_by (fun t kk_ => XS.bipush X17.here hx rfl (hb hby at_60) kk_) ?_
    show OwnG p e below s _ _ _ (T17.setTop (mkF m 62 #[.val (.int a), .val (.int b), .val (.int c0), .val (.int d), .val (.int (3 : Int32)), .val (.int (24 : Int32)), .val (.ref ab), .unset, .unset, .unset, .unset, .unset, .unset, .unset, .unset, .unset, .unset] [(.int (8 : Int32)), (.int b), (.int (2 : Int32)), (.ref ab)]))
    refine own_by (fun t kk_ => XS.iushr X17.here hx rfl (hb hby at_62) rfl kk_) ?_
    show OwnG p e below s _ _ _ (T17.setTop (mkF m 63 #[.val (.int a), .val (.int b), .val (.int c0), .val (.int d), .val (.int (3 : Int32)), .val (.int (24 : Int32)), .val (.ref ab), .unset, .unset, .unset, .unset, .unset, .unset, .unset, .unset, .unset, .unset] [(.int ((b.toUInt32 >>> ((8 : Int32) &&& 31).toUInt32).toInt32)), (.int (2 : Int32)), (.ref ab)]))
    refine own_by (fun t kk_ => XS.i2b X17.here hx rfl (hb hby at_63) rfl kk_) ?_
    show OwnG p e below s _ _ _ (T17.setTop (mkF m 64 #[.val (.int a), .val (.int b), .val (.int c0), .val (.int d), .val (.int (3 : Int32)), .val (.int (24 : Int32)), .val (.ref ab), .unset, .unset, .unset, .unset, .unset, .unset, .unset, .unset, .unset, .unset] [(.int (((b.toUInt32 >>> ((8 : Int32) &&& 31).toUInt32).toInt32).toInt8.toInt32)), (.int (2 : Int32)), (.ref ab)]))
    obtain ⟨T19, h19, X19, e19, W19, A19, st19⟩ := own_stB X17 hx hZ e17 A17 (j := (2 : Int32)) (i := 2) ⟨by decide, rfl, by decide⟩ (g := (mkF m 64 #[.val (.int a), .val (.int b), .val (.int c0), .val (.int d), .val (.int (3 : Int32)), .val (.int (24 : Int32)), .val (.ref ab), .unset, .unset, .unset, .unset, .unset, .unset, .unset, .unset, .unset, .unset] [(.int (((b.toUInt32 >>> ((8 : Int32) &&& 31).toUInt32).toInt32).toInt8.toInt32)), (.int (2 : Int32)), (.ref ab)])) rfl rfl (hb hby at_64)
    refine own_by (fun t kk_ => st19 _ kk_) ?_
    have N19 := Fr.snoc X19 N17 gg_ab
    have sz19 : n0 ≤ h19.size := by rw [W19.size]; exact sz17
    show OwnG p e below s _ _ _ (T19.setTop (mkF m 65 #[.val (.int a), .val (.int b), .val (.int c0), .val (.int d), .val (.int (3 : Int32)), .val (.int (24 : Int32)), .val (.ref ab), .unset, .unset, .unset, .unset, .unset, .unset, .unset, .unset, .unset, .unset] []))
    refine own_by (fun t kk_ => XS.iload X19.here hx rfl (hb hby at_65) rfl  kk_) ?_
    show OwnG p e below s _ _ _ (T19.setTop (mkF m 67 #[.val (.int a), .val (.int b), .val (.int c0), .val (.int d), .val (.int (3 : Int32)), .val (.int (24 : Int32)), .val (.ref ab), .unset, .unset, .unset, .unset, .unset, .unset, .unset, .unset, .unset, .unset] [(.int (3 : Int32))]))
    refine own_by (fun t kk_ => XS.iconst X19.here hx rfl (hb hby at_67) kk_) ?_
    show OwnG p e below s _ _ _ (T19.setTop (mkF m 68 #[.val (.int a), .val (.int b), .val (.int c0), .val (.int d), .val (.int (3 : Int32)), .val (.int (24 : Int32)), .val (.ref ab), .unset, .unset, .unset, .unset, .unset, .unset, .unset, .unset, .unset, .unset] [(.int (3 : Int32)), (.int (3 : Int32))]))
    refine own_by (fun t kk_ => XS.icmpYes X19.here hx rfl (pc0 := 68) (pc' := 77) rfl (hb hby at_68) rfl (flt (by decide)).2.2.2 (by decide) (by decide) kk_) ?_
    show OwnG p e below s _ _ _ (T19.setTop (mkF m 77 #[.val (.int a), .val (.int b), .val (.int c0), .val (.int d), .val (.int (3 : Int32)), .val (.int (24 : Int32)), .val (.ref ab), .unset, .unset, .unset, .unset, .unset, .unset, .unset, .unset, .unset, .unset] []))
    exact own_mid a b c0 d 3 ab X19 hx hby hml hret hlk hown hnm hZ hw e19 N19 sz19 (OwnA.congr A19 (fun i hi => by rcases i with _ | _ | _ | _ | i <;> first | omega | exact congrArg Value.int (own_b0 b) | exact congrArg Value.int (own_b1 b) | exact congrArg Value.int (own_b2 b) | exact congrArg Value.int (own_b3 b))) gg_ab (by decide)
  · subst hn
    show OwnG p e below s _ _ _ (s₁.setTop (mkF m 15 #[.val (.int a), .val (.int b), .val (.int c0), .val (.int d), .val (.int (4 : Int32)), .val (.int (32 : Int32)), .unset, .unset, .unset, .unset, .unset, .unset, .unset, .unset, .unset, .unset, .unset] []))
    refine own_by (fun t kk_ => XS.iload X0.here hx rfl (hb hby at_15) rfl  kk_) ?_
    show OwnG p e below s _ _ _ (s₁.setTop (mkF m 17 #[.val (.int a), .val (.int b), .val (.int c0), .val (.int d), .val (.int (4 : Int32)), .val (.int (32 : Int32)), .unset, .unset, .unset, .unset, .unset, .unset, .unset, .unset, .unset, .unset, .unset] [(.int (4 : Int32))]))
    obtain ⟨T21, h21, k21, X21, e21, E21, A21, st21⟩ := newP X0 hx hZ (hw _ (List.mem_of_getElem? (i := 1) rfl)) e0 (g := (mkF m 17 #[.val (.int a), .val (.int b), .val (.int c0), .val (.int d), .val (.int (4 : Int32)), .val (.int (32 : Int32)), .unset, .unset, .unset, .unset, .unset, .unset, .unset, .unset, .unset, .unset, .unset] [(.int (4 : Int32))])) rfl (hb hby at_17) rfl (by decide) (cap := 4) (by decide) (by decide) (by decide) (by decide)
    obtain ⟨ab, g21⟩ : ∃ z, z = h0.size := ⟨_, rfl⟩
    rw [← g21] at A21 st21
    have gg_ab : n0 ≤ ab := by rw [g21]; exact Z0
    have sz21 : n0 ≤ h21.size := Nat.le_trans Z0 E21.1
    refine own_by (fun t kk_ => st21 _ kk_) ?_
    have f22 : OwnA Z h21 ab .byte 4 (fun _ => (defaultValue .byte)) := OwnA.new A21 (n := 4) (by decide) rfl
    show OwnG p e below s _ _ _ (T21.setTop (mkF m 19 #[.val (.int a), .val (.int b), .val (.int c0), .val (.int d), .val (.int (4 : Int32)), .val (.int (32 : Int32)), .unset, .unset, .unset, .unset, .unset, .unset, .unset, .unset, .unset, .unset, .unset] [(.ref ab)]))
    refine own_by (fun t kk_ => XS.astore X21.here hx rfl (hb hby at_19) rfl rfl (l' := #[.val (.int a), .val (.int b), .val (.int c0), .val (.int d), .val (.int (4 : Int32)), .val (.int (32 : Int32)), .val (.ref ab), .unset, .unset, .unset, .unset, .unset, .unset, .unset, .unset, .unset, .unset]) rfl kk_) ?_
    show OwnG p e below s _ _ _ (T21.setTop (mkF m 21 #[.val (.int a), .val (.int b), .val (.int c0), .val (.int d), .val (.int (4 : Int32)), .val (.int (32 : Int32)), .val (.ref ab), .unset, .unset, .unset, .unset, .unset, .unset, .unset, .unset, .unset, .unset] []))
    refine own_by (fun t kk_ => XS.iload X21.here hx rfl (hb hby at_21) rfl  kk_) ?_
    show OwnG p e below s _ _ _ (T21.setTop (mkF m 23 #[.val (.int a), .val (.int b), .val (.int c0), .val (.int d), .val (.int (4 : Int32)), .val (.int (32 : Int32)), .val (.ref ab), .unset, .unset, .unset, .unset, .unset, .unset, .unset, .unset, .unset, .unset] [(.int (4 : Int32))]))
    refine own_by (fun t kk_ => XS.ifNo X21.here hx rfl (hb hby at_23) rfl ((if0 _ _).trans (tlt (by decide)).2.2.2) kk_) ?_
    show OwnG p e below s _ _ _ (T21.setTop (mkF m 26 #[.val (.int a), .val (.int b), .val (.int c0), .val (.int d), .val (.int (4 : Int32)), .val (.int (32 : Int32)), .val (.ref ab), .unset, .unset, .unset, .unset, .unset, .unset, .unset, .unset, .unset, .unset] []))
    refine own_by (fun t kk_ => XS.aload X21.here hx rfl (hb hby at_26) rfl rfl kk_) ?_
    show OwnG p e below s _ _ _ (T21.setTop (mkF m 28 #[.val (.int a), .val (.int b), .val (.int c0), .val (.int d), .val (.int (4 : Int32)), .val (.int (32 : Int32)), .val (.ref ab), .unset, .unset, .unset, .unset, .unset, .unset, .unset, .unset, .unset, .unset] [(.ref ab)]))
    refine own_by (fun t kk_ => XS.iconst X21.here hx rfl (hb hby at_28) kk_) ?_
    show OwnG p e below s _ _ _ (T21.setTop (mkF m 29 #[.val (.int a), .val (.int b), .val (.int c0), .val (.int d), .val (.int (4 : Int32)), .val (.int (32 : Int32)), .val (.ref ab), .unset, .unset, .unset, .unset, .unset, .unset, .unset, .unset, .unset, .unset] [(.int (0 : Int32)), (.ref ab)]))
    refine own_by (fun t kk_ => XS.iloadN X21.here hx rfl (hb hby at_29) rfl  kk_) ?_
    show OwnG p e below s _ _ _ (T21.setTop (mkF m 30 #[.val (.int a), .val (.int b), .val (.int c0), .val (.int d), .val (.int (4 : Int32)), .val (.int (32 : Int32)), .val (.ref ab), .unset, .unset, .unset, .unset, .unset, .unset, .unset, .unset, .unset, .unset] [(.int b), (.int (0 : Int32)), (.ref ab)]))
    refine own_by (fun t kk_ => XS.bipush X21.here hx rfl (hb hby at_30) kk_) ?_
    show OwnG p e below s _ _ _ (T21.setTop (mkF m 32 #[.val (.int a), .val (.int b), .val (.int c0), .val (.int d), .val (.int (4 : Int32)), .val (.int (32 : Int32)), .val (.ref ab), .unset, .unset, .unset, .unset, .unset, .unset, .unset, .unset, .unset, .unset] [(.int (24 : Int32)), (.int b), (.int (0 : Int32)), (.ref ab)]))
    refine own_by (fun t kk_ => XS.iushr X21.here hx rfl (hb hby at_32) rfl kk_) ?_
    show OwnG p e below s _ _ _ (T21.setTop (mkF m 33 #[.val (.int a), .val (.int b), .val (.int c0), .val (.int d), .val (.int (4 : Int32)), .val (.int (32 : Int32)), .val (.ref ab), .unset, .unset, .unset, .unset, .unset, .unset, .unset, .unset, .unset, .unset] [(.int ((b.toUInt32 >>> ((24 : Int32) &&& 31).toUInt32).toInt32)), (.int (0 : Int32)), (.ref ab)]))
    refine own_by (fun t kk_ => XS.i2b X21.here hx rfl (hb hby at_33) rfl kk_) ?_
    show OwnG p e below s _ _ _ (T21.setTop (mkF m 34 #[.val (.int a), .val (.int b), .val (.int c0), .val (.int d), .val (.int (4 : Int32)), .val (.int (32 : Int32)), .val (.ref ab), .unset, .unset, .unset, .unset, .unset, .unset, .unset, .unset, .unset, .unset] [(.int (((b.toUInt32 >>> ((24 : Int32) &&& 31).toUInt32).toInt32).toInt8.toInt32)), (.int (0 : Int32)), (.ref ab)]))
    obtain ⟨T23, h23, X23, e23, W23, A23, st23⟩ := own_stB X21 hx hZ e21 f22 (j := (0 : Int32)) (i := 0) ⟨by decide, rfl, by decide⟩ (g := (mkF m 34 #[.val (.int a), .val (.int b), .val (.int c0), .val (.int d), .val (.int (4 : Int32)), .val (.int (32 : Int32)), .val (.ref ab), .unset, .unset, .unset, .unset, .unset, .unset, .unset, .unset, .unset, .unset] [(.int (((b.toUInt32 >>> ((24 : Int32) &&& 31).toUInt32).toInt32).toInt8.toInt32)), (.int (0 : Int32)), (.ref ab)])) rfl rfl (hb hby at_34)
    refine own_by (fun t kk_ => st23 _ kk_) ?_
    have N23 := Fr.snoc X23 N0 gg_ab
    have sz23 : n0 ≤ h23.size := by rw [W23.size]; exact sz21
    show OwnG p e below s _ _ _ (T23.setTop (mkF m 35 #[.val (.int a), .val (.int b), .val (.int c0), .val (.int d), .val (.int (4 : Int32)), .val (.int (32 : Int32)), .val (.ref ab), .unset, .unset, .unset, .unset, .unset, .unset, .unset, .unset, .unset, .unset] []))
    refine own_by (fun t kk_ => XS.iload X23.here hx rfl (hb hby at_35) rfl  kk_) ?_
    show OwnG p e below s _ _ _ (T23.setTop (mkF m 37 #[.val (.int a), .val (.int b), .val (.int c0), .val (.int d), .val (.int (4 : Int32)), .val (.int (32 : Int32)), .val (.ref ab), .unset, .unset, .unset, .unset, .unset, .unset, .unset, .unset, .unset, .unset] [(.int (4 : Int32))]))
    refine own_by (fun t kk_ => XS.iconst X23.here hx rfl (hb hby at_37) kk_) ?_
    show OwnG p e below s _ _ _ (T23.setTop (mkF m 38 #[.val (.int a), .val (.int b), .val (.int c0), .val (.int d), .val (.int (4 : Int32)), .val (.int (32 : Int32)), .val (.ref ab), .unset, .unset, .unset, .unset, .unset, .unset, .unset, .unset, .unset, .unset] [(.int (1 : Int32)), (.int (4 : Int32))]))
    refine own_by (fun t kk_ => XS.icmpNo X23.here hx rfl (hb hby at_38) rfl (tlt (by decide)).2.2.2 kk_) ?_
    show OwnG p e below s _ _ _ (T23.setTop (mkF m 41 #[.val (.int a), .val (.int b), .val (.int c0), .val (.int d), .val (.int (4 : Int32)), .val (.int (32 : Int32)), .val (.ref ab), .unset, .unset, .unset, .unset, .unset, .unset, .unset, .unset, .unset, .unset] []))
    refine own_by (fun t kk_ => XS.aload X23.here hx rfl (hb hby at_41) rfl rfl kk_) ?_
    show OwnG p e below s _ _ _ (T23.setTop (mkF m 43 #[.val (.int a), .val (.int b), .val (.int c0), .val (.int d), .val (.int (4 : Int32)), .val (.int (32 : Int32)), .val (.ref ab), .unset, .unset, .unset, .unset, .unset, .unset, .unset, .unset, .unset, .unset] [(.ref ab)]))
    refine own_by (fun t kk_ => XS.iconst X23.here hx rfl (hb hby at_43) kk_) ?_
    show OwnG p e below s _ _ _ (T23.setTop (mkF m 44 #[.val (.int a), .val (.int b), .val (.int c0), .val (.int d), .val (.int (4 : Int32)), .val (.int (32 : Int32)), .val (.ref ab), .unset, .unset, .unset, .unset, .unset, .unset, .unset, .unset, .unset, .unset] [(.int (1 : Int32)), (.ref ab)]))
    refine own_by (fun t kk_ => XS.iloadN X23.here hx rfl (hb hby at_44) rfl  kk_) ?_
    show OwnG p e below s _ _ _ (T23.setTop (mkF m 45 #[.val (.int a), .val (.int b), .val (.int c0), .val (.int d), .val (.int (4 : Int32)), .val (.int (32 : Int32)), .val (.ref ab), .unset, .unset, .unset, .unset, .unset, .unset, .unset, .unset, .unset, .unset] [(.int b), (.int (1 : Int32)), (.ref ab)]))
    refine own_by (fun t kk_ => XS.bipush X23.here hx rfl (hb hby at_45) kk_) ?_
    show OwnG p e below s _ _ _ (T23.setTop (mkF m 47 #[.val (.int a), .val (.int b), .val (.int c0), .val (.int d), .val (.int (4 : Int32)), .val (.int (32 : Int32)), .val (.ref ab), .unset, .unset, .unset, .unset, .unset, .unset, .unset, .unset, .unset, .unset] [(.int (16 : Int32)), (.int b), (.int (1 : Int32)), (.ref ab)]))
    refine own_by (fun t kk_ => XS.iushr X23.here hx rfl (hb hby at_47) rfl kk_) ?_
    show OwnG p e below s _ _ _ (T23.setTop (mkF m 48 #[.val (.int a), .val (.int b), .val (.int c0), .val (.int d), .val (.int (4 : Int32)), .val (.int (32 : Int32)), .val (.ref ab), .unset, .unset, .unset, .unset, .unset, .unset, .unset, .unset, .unset, .unset] [(.int ((b.toUInt32 >>> ((16 : Int32) &&& 31).toUInt32).toInt32)), (.int (1 : Int32)), (.ref ab)]))
    refine own_by (fun t kk_ => XS.i2b X23.here hx rfl (hb hby at_48) rfl kk_) ?_
    show OwnG p e below s _ _ _ (T23.setTop (mkF m 49 #[.val (.int a), .val (.int b), .val (.int c0), .val (.int d), .val (.int (4 : Int32)), .val (.int (32 : Int32)), .val (.ref ab), .unset, .unset, .unset, .unset, .unset, .unset, .unset, .unset, .unset, .unset] [(.int (((b.toUInt32 >>> ((16 : Int32) &&& 31).toUInt32).toInt32).toInt8.toInt32)), (.int (1 : Int32)), (.ref ab)]))
    obtain ⟨T25, h25, X25, e25, W25, A25, st25⟩ := own_stB X23 hx hZ e23 A23 (j := (1 : Int32)) (i := 1) ⟨by decide, rfl, by decide⟩ (g := (mkF m 49 #[.val (.int a), .val (.int b), .val (.int c0), .val (.int d), .val (.int (4 : Int32)), .val (.int (32 : Int32)), .val (.ref ab), .unset, .unset, .unset, .unset, .unset, .unset, .unset, .unset, .unset, .unset] [(.int (((b.toUInt32 >>> ((16 : Int32) &&& 31).toUInt32).toInt32).toInt8.toInt32)), (.int (1 : Int32)), (.ref ab)])) rfl rfl (hb hby at_49)
    refine own_by (fun t kk_ => st25 _ kk_) ?_
    have N25 := Fr.snoc X25 N23 gg_ab
    have sz25 : n0 ≤ h25.size := by rw [W25.size]; exact sz23
    show OwnG p e below s _ _ _ (T25.setTop (mkF m 50 #[.val (.int a), .val (.int b), .val (.int c0), .val (.int d), .val (.int (4 : Int32)), .val (.int (32 : Int32)), .val (.ref ab), .unset, .unset, .unset, .unset, .unset, .unset, .unset, .unset, .unset, .unset] []))
    refine own_by (fun t kk_ => XS.iload X25.here hx rfl (hb hby at_50) rfl  kk_) ?_
    show OwnG p e below s _ _ _ (T25.setTop (mkF m 52 #[.val (.int a), .val (.int b), .val (.int c0), .val (.int d), .val (.int (4 : Int32)), .val (.int (32 : Int32)), .val (.ref ab), .unset, .unset, .unset, .unset, .unset, .unset, .unset, .unset, .unset, .unset] [(.int (4 : Int32))]))
    refine own_by (fun t kk_ => XS.iconst X25.here hx rfl (hb hby at_52) kk_) ?_
    show OwnG p e below s _ _ _ (T25.setTop (mkF m 53 #[.val (.int a), .val (.int b), .val (.int c0), .val (.int d), .val (.int (4 : Int32)), .val (.int (32 : Int32)), .val (.ref ab), .unset, .unset, .unset, .unset, .unset, .unset, .unset, .unset, .unset, .unset] [(.int (2 : Int32)), (.int (4 : Int32))]))
    refine own_by (fun t kk_ => XS.icmpNo X25.here hx rfl (hb hby at_53) rfl (tlt (by decide)).2.2.2 kk_) ?_
    show OwnG p e below s _ _ _ (T25.setTop (mkF m 56 #[.val (.int a), .val (.int b), .val (.int c0), .val (.int d), .val (.int (4 : Int32)), .val (.int (32 : Int32)), .val (.ref ab), .unset, .unset, .unset, .unset, .unset, .unset, .unset, .unset, .unset, .unset] []))
    refine own_by (fun t kk_ => XS.aload X25.here hx rfl (hb hby at_56) rfl rfl kk_) ?_
    show OwnG p e below s _ _ _ (T25.setTop (mkF m 58 #[.val (.int a), .val (.int b), .val (.int c0), .val (.int d), .val (.int (4 : Int32)), .val (.int (32 : Int32)), .val (.ref ab), .unset, .unset, .unset, .unset, .unset, .unset, .unset, .unset, .unset, .unset] [(.ref ab)]))
    refine own_by (fun t kk_ => XS.iconst X25.here hx rfl (hb hby at_58) kk_) ?_
    show OwnG p e below s _ _ _ (T25.setTop (mkF m 59 #[.val (.int a), .val (.int b), .val (.int c0), .val (.int d), .val (.int (4 : Int32)), .val (.int (32 : Int32)), .val (.ref ab), .unset, .unset, .unset, .unset, .unset, .unset, .unset, .unset, .unset, .unset] [(.int (2 : Int32)), (.ref ab)]))
    refine own_by (fun t kk_ => XS.iloadN X25.here hx rfl (hb hby at_59) rfl  kk_) ?_
    show OwnG p e below s _ _ _ (T25.setTop (mkF m 60 #[.val (.int a), .val (.int b), .val (.int c0), .val (.int d), .val (.int (4 : Int32)), .val (.int (32 : Int32)), .val (.ref ab), .unset, .unset, .unset, .unset, .unset, .unset, .unset, .unset, .unset, .unset] [(.int b), (.int (2 : Int32)), (.ref ab)]))
    refine own_by (fun t kk_ => XS.bipush X25.here hx rfl (hb hby at_60) kk_) ?_
    show OwnG p e below s _ _ _ (T25.setTop (mkF m 62 #[.val (.int a), .val (.int b), .val (.int c0), .val (.int d), .val (.int (4 : Int32)), .val (.int (32 : Int32)), .val (.ref ab), .unset, .unset, .unset, .unset, .unset, .unset, .unset, .unset, .unset, .unset] [(.int (8 : Int32)), (.int b), (.int (2 : Int32)), (.ref ab)]))
    refine own_by (fun t kk_ => XS.iushr X25.here hx rfl (hb hby at_62) rfl kk_) ?_
    show OwnG p e below s _ _ _ (T25.setTop (mkF m 63 #[.val (.int a), .val (.int b), .val (.int c0), .val (.int d), .val (.int (4 : Int32)), .val (.int (32 : Int32)), .val (.ref ab), .unset, .unset, .unset, .unset, .unset, .unset, .unset, .unset, .unset, .unset] [(.int ((b.toUInt32 >>> ((8 : Int32) &&& 31).toUInt32).toInt32)), (.int (2 : Int32)), (.ref ab)]))
    refine own_by (fun t kk_ => XS.i2b X25.here hx rfl (hb hby at_63) rfl kk_) ?_
    show OwnG p e below s _ _ _ (T25.setTop (mkF m 64 #[.val (.int a), .val (.int b), .val (.int c0), .val (.int d), .val (.int (4 : Int32)), .val (.int (32 : Int32)), .val (.ref ab), .unset, .unset, .unset, .unset, .unset, .unset, .unset, .unset, .unset, .unset] [(.int (((b.toUInt32 >>> ((8 : Int32) &&& 31).toUInt32).toInt32).toInt8.toInt32)), (.int (2 : Int32)), (.ref ab)]))
    obtain ⟨T27, h27, X27, e27, W27, A27, st27⟩ := own_stB X25 hx hZ e25 A25 (j := (2 : Int32)) (i := 2) ⟨by decide, rfl, by decide⟩ (g := (mkF m 64 #[.val (.int a), .val (.int b), .val (.int c0), .val (.int d), .val (.int (4 : Int32)), .val (.int (32 : Int32)), .val (.ref ab), .unset, .unset, .unset, .unset, .unset, .unset, .unset, .unset, .unset, .unset] [(.int (((b.toUInt32 >>> ((8 : Int32) &&& 31).toUInt32).toInt32).toInt8.toInt32)), (.int (2 : Int32)), (.ref ab)])) rfl rfl (hb hby at_64)
    refine own_by (fun t kk_ => st27 _ kk_) ?_
    have N27 := Fr.snoc X27 N25 gg_ab
    have sz27 : n0 ≤ h27.size := by rw [W27.size]; exact sz25
    show OwnG p e below s _ _ _ (T27.setTop (mkF m 65 #[.val (.int a), .val (.int b), .val (.int c0), .val (.int d), .val (.int (4 : Int32)), .val (.int (32 : Int32)), .val (.ref ab), .unset, .unset, .unset, .unset, .unset, .unset, .unset, .unset, .unset, .unset] []))
    refine own_by (fun t kk_ => XS.iload X27.here hx rfl (hb hby at_65) rfl  kk_) ?_
    show OwnG p e below s _ _ _ (T27.setTop (mkF m 67 #[.val (.int a), .val (.int b), .val (.int c0), .val (.int d), .val (.int (4 : Int32)), .val (.int (32 : Int32)), .val (.ref ab), .unset, .unset, .unset, .unset, .unset, .unset, .unset, .unset, .unset, .unset] [(.int (4 : Int32))]))
    refine own_by (fun t kk_ => XS.iconst X27.here hx rfl (hb hby at_67) kk_) ?_
    show OwnG p e below s _ _ _ (T27.setTop (mkF m 68 #[.val (.int a), .val (.int b), .val (.int c0), .val (.int d), .val (.int (4 : Int32)), .val (.int (32 : Int32)), .val (.ref ab), .unset, .unset, .unset, .unset, .unset, .unset, .unset, .unset, .unset, .unset] [(.int (3 : Int32)), (.int (4 : Int32))]))
    refine own_by (fun t kk_ => XS.icmpNo X27.here hx rfl (hb hby at_68) rfl (tlt (by decide)).2.2.2 kk_) ?_
    show OwnG p e below s _ _ _ (T27.setTop (mkF m 71 #[.val (.int a), .val (.int b), .val (.int c0), .val (.int d), .val (.int (4 : Int32)), .val (.int (32 : Int32)), .val (.ref ab), .unset, .unset, .unset, .unset, .unset, .unset, .unset, .unset, .unset, .unset] []))
    refine own_by (fun t kk_ => XS.aload X27.here hx rfl (hb hby at_71) rfl rfl kk_) ?_
    show OwnG p e below s _ _ _ (T27.setTop (mkF m 73 #[.val (.int a), .val (.int b), .val (.int c0), .val (.int d), .val (.int (4 : Int32)), .val (.int (32 : Int32)), .val (.ref ab), .unset, .unset, .unset, .unset, .unset, .unset, .unset, .unset, .unset, .unset] [(.ref ab)]))
    refine own_by (fun t kk_ => XS.iconst X27.here hx rfl (hb hby at_73) kk_) ?_
    show OwnG p e below s _ _ _ (T27.setTop (mkF m 74 #[.val (.int a), .val (.int b), .val (.int c0), .val (.int d), .val (.int (4 : Int32)), .val (.int (32 : Int32)), .val (.ref ab), .unset, .unset, .unset, .unset, .unset, .unset, .unset, .unset, .unset, .unset] [(.int (3 : Int32)), (.ref ab)]))
    refine own_by (fun t kk_ => XS.iloadN X27.here hx rfl (hb hby at_74) rfl  kk_) ?_
    show OwnG p e below s _ _ _ (T27.setTop (mkF m 75 #[.val (.int a), .val (.int b), .val (.int c0), .val (.int d), .val (.int (4 : Int32)), .val (.int (32 : Int32)), .val (.ref ab), .unset, .unset, .unset, .unset, .unset, .unset, .unset, .unset, .unset, .unset] [(.int b), (.int (3 : Int32)), (.ref ab)]))
    refine own_by (fun t kk_ => XS.i2b X27.here hx rfl (hb hby at_75) rfl kk_) ?_
    show OwnG p e below s _ _ _ (T27.setTop (mkF m 76 #[.val (.int a), .val (.int b), .val (.int c0), .val (.int d), .val (.int (4 : Int32)), .val (.int (32 : Int32)), .val (.ref ab), .unset, .unset, .unset, .unset, .unset, .unset, .unset, .unset, .unset, .unset] [(.int (b.toInt8.toInt32)), (.int (3 : Int32)), (.ref ab)]))
    obtain ⟨T29, h29, X29, e29, W29, A29, st29⟩ := own_stB X27 hx hZ e27 A27 (j := (3 : Int32)) (i := 3) ⟨by decide, rfl, by decide⟩ (g := (mkF m 76 #[.val (.int a), .val (.int b), .val (.int c0), .val (.int d), .val (.int (4 : Int32)), .val (.int (32 : Int32)), .val (.ref ab), .unset, .unset, .unset, .unset, .unset, .unset, .unset, .unset, .unset, .unset] [(.int (b.toInt8.toInt32)), (.int (3 : Int32)), (.ref ab)])) rfl rfl (hb hby at_76)
    refine own_by (fun t kk_ => st29 _ kk_) ?_
    have N29 := Fr.snoc X29 N27 gg_ab
    have sz29 : n0 ≤ h29.size := by rw [W29.size]; exact sz27
    show OwnG p e below s _ _ _ (T29.setTop (mkF m 77 #[.val (.int a), .val (.int b), .val (.int c0), .val (.int d), .val (.int (4 : Int32)), .val (.int (32 : Int32)), .val (.ref ab), .unset, .unset, .unset, .unset, .unset, .unset, .unset, .unset, .unset, .unset] []))
    exact own_mid a b c0 d 4 ab X29 hx hby hml hret hlk hown hnm hZ hw e29 N29 sz29 (OwnA.congr A29 (fun i hi => by rcases i with _ | _ | _ | _ | i <;> first | omega | exact congrArg Value.int (own_b0 b) | exact congrArg Value.int (own_b1 b) | exact congrArg Value.int (own_b2 b) | exact congrArg Value.int (own_b3 b))) gg_ab (by decide)
set_option maxRecDepth 65536 in
set_option maxHeartbeats 40000000 in
theorem comes_1 {Post : Tables → Env → Array Value → State → Outcome → State → Prop} (hpost : ∀ tb e args s v u, (limb_1_1.after args s (.returned v) u = true ∧ limb_1_2.after args s (.returned v) u = true ∧ True) → FrameEnd s (.returned v) u (Jvm.fieldLocs frame_1_writes args s ++ Jvm.arrayLocs frame_1_arrays args s ++ Jvm.staticLocs frame_1_statics s) 16 128 → Post tb e args s (.returned v) u) :
    ArmFor flags0 classFile x code maxLocals ret World_1 tables_1 room_1 Calls_1 rest_1 Pre_1 Post := by
  intro l hfl _ _ p e ha hc hk s m args below hf hA hF happ hP
  obtain ⟨hcalls, hrest, hpre⟩ := hP
  obtain ⟨-, -, -, hnamed, -, -, -, hat⟩ := (Spec.applies_iff hf).mp happ
  obtain ⟨hg, hn⟩ := and_e (Cond.before_iff.mp (show (Jvm.Cond.and given_1 narrow_1).before args s = true from hpre))
  obtain ⟨gc, gr0⟩ := and_e hg
  obtain ⟨ga0, gr1⟩ := and_e gr0
  obtain ⟨ga1, gr2⟩ := and_e gr1
  obtain ⟨ga2, gr3⟩ := and_e gr2
  obtain ⟨w0, w1, w2, w3, rfl⟩ : ∃ w0 w1 w2 w3 : Value, args = #[w0, w1, w2, w3] := by
    have hs : args.size = 4 := by simpa [Cond.value, given_1] using gc
    obtain ⟨L⟩ := args
    match L, hs with
    | [w0, w1, w2, w3], _ => exact ⟨w0, w1, w2, w3, rfl⟩
  have hw := fun d (hd : d ∈ tables_1) => atoms_spec (ws := Jvm.Cond.code x code maxLocals ret :: tables_1) hat d (List.mem_cons_of_mem _ hd)
  obtain ⟨i0, ei0⟩ := is_v ga0
  obtain rfl : w0 = (.int i0) := Option.some.inj ei0
  obtain ⟨i1, ei1⟩ := is_v ga1
  obtain rfl : w1 = (.int i1) := Option.some.inj ei1
  obtain ⟨i2, ei2⟩ := is_v ga2
  obtain rfl : w2 = (.int i2) := Option.some.inj ei2
  obtain ⟨i3, ei3⟩ := is_v gr3
  obtain rfl : w3 = (.int i3) := Option.some.inj ei3
  obtain ⟨n, o, h1, h2, h3, _, L, rfl, ⟨rfl, N⟩, hq⟩ := rm0 l s _ hw tables_1 i0 i1 i2 i3 s.heap s.heap.size (Nat.le_refl _) p e ha hc hk s m _ below hf ((Spec.applies_iff_loose hf).mp happ).1 ⟨rfl, State.Warmed39.refl s, rfl⟩ trivial
  refine ⟨n, _, h1, h2, h3, hpost _ _ _ _ _ _ ⟨Cond.after_iff.mpr rfl, Cond.after_iff.mpr (eq_i res_at (Term.int_eval (1)) rfl), trivial⟩ ⟨hq.1, hq.2.1, (hq.2.2.sift fun y hy => Or.inr (N y hy)).mono (by decide) (by decide)⟩⟩
theorem main_1_1 : Claimed_1_1 := comes_1 fun _ _ _ _ _ _ h hF => ⟨h.1, hF⟩
theorem main_1_2 : Claimed_1_2 := comes_1 fun _ _ _ _ _ _ h hF => ⟨h.2.1, hF⟩
end Jvm.Pilot.@@N@@
namespace Jvm.Pilot.@@N@@
open Jvm Jvm.ClassFile Sem Op Lib Jvm.Free Jvm.Stand Jvm.Pilot.@@N@@.Jvm.D
/-! MADE BY PROGRAM (witnessworld.py) out of the Statement's table words and the real class files: 9 classes; the members and pool entries that the words name. The judged class is class 1, her method 1. -/
namespace start1
open Jvm.ClassFile
def u (s : String) : CpInfo := .utf8 (stringToUtf16 s)
/-- a pool by its gaps: so many unusable entries, then the entry; so many at the end -/
def gap : Nat → List CpInfo → List CpInfo
  | 0, r => r
  | n + 1, r => .unusable :: gap n r
def poolList (es : List (Nat × CpInfo)) (last : Nat) : List CpInfo := es.foldr (fun e r => gap e.1 (e.2 :: r)) (gap last [])
def pool (es : List (Nat × CpInfo)) (last : Nat) : Array CpInfo := ⟨poolList es last⟩
def fileOf (pool : Array CpInfo) (this : Nat) (attrs : Array Attribute := #[]) (ms : Array MethodInfo := #[]) (fl : Nat := 33) (sup : Nat := 0) (ifs : Array Nat := #[]) (fds : Array FieldInfo := #[]) : ClassFile where
  minorVersion := 0
  majorVersion := 65
  constantPool := pool
  accessFlags := fl
  thisClass := this
  superClass := sup
  interfaces := ifs
  fields := fds
  methods := ms
  attributes := attrs
def plain (name : String) (sup : Option ClassId) : Class where
  name := name
  kind := .ordinary
  loader := none
  accessFlags := 33
  super := sup
  interfaces := #[]
  cf := none
  fields := #[]
  methods := #[]
  instanceTypes := #[]
  staticTypes := #[]
  resolved := #[]
  callSites := []
  init := .initialized
  statics := none
  mirror := none

def pool0 : Array CpInfo := pool [(5, u "<init>"), (0, u "()V"), (1, .class_ 10), (1, u "java/lang/Object")] 113

def k0c0 : Code := { maxStack := 0, maxLocals := 1, code := object_method_1_code, exceptionTable := #[], attributes := #[] }
def k0m0 : Method := { name := "<init>", desc := "()V", sig := { parameters := [], returnType := none }, accessFlags := 1, code := some k0c0 }
/-- java/lang/Object -/
def k0 : Class := { plain "java/lang/Object" none with
  accessFlags := 33
  interfaces := #[]
  cf := some (fileOf pool0 8 #[] #[{ accessFlags := 1, nameIndex := 5, descriptorIndex := 6, attributes := #[] }] 33 0 #[] #[])
  fields := #[]
  methods := #[k0m0]
  instanceTypes := #[]
  staticTypes := #[]
  resolved := Array.replicate 124 none
  statics := none }

def pool1 : Array CpInfo := pool [(2, .class_ 4), (1, u "java/lang/Object"), (0, u "<init>"), (0, u "()V"), (0, .integer 2147483647), (0, .class_ 9), (0, u "com/example/iota_ranker/iotaranker/index/BitInput"), (0, .methodref 8 11), (0, .nameAndType 5 12), (0, u "([B)V"), (0, .methodref 8 14), (0, .nameAndType 15 16), (0, u "readBits"), (0, u "(I)J"), (0, .methodref 8 18), (0, .nameAndType 19 20), (0, u "atPadding"), (0, u "()Z"), (0, .long 4294967295), (1, .class_ 24), (0, u "com/example/iota_ranker/iotaranker/index/BitInputAtPaddingPinLaw"), (2, u "law"), (0, u "(IIII)Z")] 8

def k1m0 : Method := { name := "<init>", desc := "()V", sig := { parameters := [], returnType := none }, accessFlags := 1, code := none }
def k1c1 : Code := { maxStack := 6, maxLocals := 17, code := code, exceptionTable := #[], attributes := #[] }
def k1m1 : Method := { name := "law", desc := "(IIII)Z", sig := { parameters := [.int, .int, .int, .int], returnType := some .boolean }, accessFlags := 9, code := some k1c1 }
/-- com/example/iota_ranker/iotaranker/index/BitInputAtPaddingPinLaw -/
def k1 : Class := { plain "com/example/iota_ranker/iotaranker/index/BitInputAtPaddingPinLaw" (some 0) with
  accessFlags := 49
  interfaces := #[]
  cf := some (fileOf pool1 23 #[] #[{ accessFlags := 1, nameIndex := 5, descriptorIndex := 6, attributes := #[] }, { accessFlags := 9, nameIndex := 27, descriptorIndex := 28, attributes := #[] }] 49 2 #[] #[])
  fields := #[]
  methods := #[k1m0, k1m1]
  instanceTypes := #[]
  staticTypes := #[]
  resolved := Array.replicate 37 none
  statics := none }

def pool2 : Array CpInfo := pool [(3, .methodref 4 5), (0, .class_ 6), (0, .nameAndType 7 8), (0, u "java/lang/Object"), (0, u "<init>"), (0, u "()V"), (0, .fieldref 10 11), (0, .class_ 12), (0, .nameAndType 13 14), (0, u "com/example/iota_ranker/iotaranker/index/BitInput"), (0, u "bytes"), (0, u "[B"), (0, .fieldref 10 16), (0, .nameAndType 17 18), (0, u "loadedBits"), (0, u "I"), (0, .methodref 10 20), (0, .nameAndType 21 8), (0, u "load"), (4, .fieldref 10 27), (0, .nameAndType 28 29), (0, u "loaded"), (0, u "J"), (23, u "readBits"), (0, u "(I)J"), (1, .fieldref 10 57), (0, .nameAndType 58 18), (0, u "next"), (7, .long 255), (1, u "MAX_GAMMA_ZEROS"), (2, u "([B)V"), (8, u "atPadding"), (0, u "()Z")] 19

def k2c0 : Code := { maxStack := 2, maxLocals := 2, code := prog_46_method_1_code, exceptionTable := #[], attributes := #[] }
def k2m0 : Method := { name := "<init>", desc := "([B)V", sig := { parameters := [(.array .byte)], returnType := none }, accessFlags := 0, code := some k2c0 }
def k2c1 : Code := { maxStack := 4, maxLocals := 4, code := prog_46_method_2_code, exceptionTable := #[], attributes := #[] }
def k2m1 : Method := { name := "readBits", desc := "(I)J", sig := { parameters := [.int], returnType := some .long }, accessFlags := 0, code := some k2c1 }
def k2c2 : Code := { maxStack := 4, maxLocals := 1, code := prog_46_method_6_code, exceptionTable := #[], attributes := #[] }
def k2m2 : Method := { name := "atPadding", desc := "()Z", sig := { parameters := [], returnType := some .boolean }, accessFlags := 0, code := some k2c2 }
def k2c3 : Code := { maxStack := 7, maxLocals := 1, code := prog_46_method_8_code, exceptionTable := #[], attributes := #[] }
def k2m3 : Method := { name := "load", desc := "()V", sig := { parameters := [], returnType := none }, accessFlags := 2, code := some k2c3 }
/-- com/example/iota_ranker/iotaranker/index/BitInput -/
def k2 : Class := { plain "com/example/iota_ranker/iotaranker/index/BitInput" (some 0) with
  accessFlags := 48
  interfaces := #[]
  cf := some (fileOf pool2 10 #[] #[{ accessFlags := 0, nameIndex := 7, descriptorIndex := 71, attributes := #[] }, { accessFlags := 0, nameIndex := 53, descriptorIndex := 54, attributes := #[] }, { accessFlags := 0, nameIndex := 80, descriptorIndex := 81, attributes := #[] }, { accessFlags := 2, nameIndex := 21, descriptorIndex := 8, attributes := #[] }] 48 4 #[] #[{ accessFlags := 26, nameIndex := 68, descriptorIndex := 18, attributes := #[] }, { accessFlags := 18, nameIndex := 13, descriptorIndex := 14, attributes := #[] }, { accessFlags := 2, nameIndex := 58, descriptorIndex := 18, attributes := #[] }, { accessFlags := 2, nameIndex := 28, descriptorIndex := 29, attributes := #[] }, { accessFlags := 2, nameIndex := 17, descriptorIndex := 18, attributes := #[] }])
  fields := #[{ name := "MAX_GAMMA_ZEROS", type := .int, accessFlags := 26, slot := 0, constantValue := 0 }, { name := "bytes", type := (.array .byte), accessFlags := 18, slot := 0, constantValue := 0 }, { name := "next", type := .int, accessFlags := 2, slot := 1, constantValue := 0 }, { name := "loaded", type := .long, accessFlags := 2, slot := 2, constantValue := 0 }, { name := "loadedBits", type := .int, accessFlags := 2, slot := 3, constantValue := 0 }]
  methods := #[k2m0, k2m1, k2m2, k2m3]
  instanceTypes := #[(.array .byte), .int, .long, .int]
  staticTypes := #[.int]
  resolved := Array.replicate 101 none
  statics := none }

def pool3 : Array CpInfo := pool [(1, u "java/lang/Cloneable"), (0, .class_ 1), (0, u "java/lang/Object"), (0, .class_ 3)] 3

/-- java/lang/Cloneable -/
def k3 : Class := { plain "java/lang/Cloneable" (some 0) with
  accessFlags := 1537
  interfaces := #[]
  cf := some (fileOf pool3 2 #[] #[] 1537 4 #[] #[])
  fields := #[]
  methods := #[]
  instanceTypes := #[]
  staticTypes := #[]
  resolved := Array.replicate 8 none
  statics := none }

def pool4 : Array CpInfo := pool [(1, u "java/io/Serializable"), (0, .class_ 1), (0, u "java/lang/Object"), (0, .class_ 3)] 3

/-- java/io/Serializable -/
def k4 : Class := { plain "java/io/Serializable" (some 0) with
  accessFlags := 1537
  interfaces := #[]
  cf := some (fileOf pool4 2 #[] #[] 1537 4 #[] #[])
  fields := #[]
  methods := #[]
  instanceTypes := #[]
  staticTypes := #[]
  resolved := Array.replicate 8 none
  statics := none }

/-- the primitive byte -/
def k5 : Class := { plain "byte" none with kind := .primitive 'B', accessFlags := 0x411 }
/-- [B -/
def k6 : Class := { plain "[B" (some 0) with kind := .array 5 .byte, interfaces := #[3, 4], accessFlags := 1041 }

/-- the primitive int -/
def k7 : Class := { plain "int" none with kind := .primitive 'I', accessFlags := 0x411 }
/-- [I -/
def k8 : Class := { plain "[I" (some 0) with kind := .array 7 .int, interfaces := #[3, 4], accessFlags := 1041 }

def heap : Heap := #[]
def classes : Array Class := #[k0, k1, k2, k3, k4, k5, k6, k7, k8]
def interned : List (Array UInt16 × Addr) := []
def slotsUsed : Nat := 0
def theMethod : MethodId := ⟨1, 1⟩
def args0 : Array Value := #[.int 5, .int 3, .int 3, .int 3]
def aboutOver (below : List Frame) : State where
  vm := { classes := classes, interned := interned.toArray }
  heap := heap
  slotsUsed := slotsUsed
  threads := #[{ frames := .invoking theMethod args0 :: below }]
def below0 : List Frame := [.native { method := ⟨0, 0⟩, args := #[] }]
def about1 : State := aboutOver below0
def p0 : Program := .bare "" "" ""
def e0 : Env := launch0.env 0 0 0
theorem w_frames : about1.frames = Frame.invoking theMethod args0 :: below0 := rfl
set_option maxRecDepth 65536 in
theorem w_args : argsFit about1.vm theMethod args0 = true := by decide +kernel
set_option maxRecDepth 65536 in
theorem w_heap : heapFits about1 = true := by decide +kernel
set_option maxRecDepth 65536 in
theorem w_runnable : about1.curStatus? = some .runnable := by decide +kernel
set_option maxRecDepth 65536 in
theorem w_alone : about1.alone = true := by decide +kernel
set_option maxRecDepth 65536 in
theorem w_named : about1.methodNamed? x = some theMethod := by decide +kernel
set_option maxRecDepth 65536 in
theorem w_hears : about1.hears theMethod below0 = true := by decide +kernel
set_option maxRecDepth 65536 in
theorem w_ripe : about1.ripe theMethod args0 below0 = true := by decide +kernel
theorem w_running : about1.status = .running := rfl
set_option maxRecDepth 65536 in
theorem w_room : about1.hasRoom e0.platform room_1 = true :=
  launch0.hasRoom_least _ room_1 (by decide +kernel) (by decide +kernel) (by decide +kernel) (by decide +kernel) (by decide +kernel) (by decide +kernel)
theorem allAtoms_all (ts : List Jvm.Cond) (a : Array Jvm.Value) (st : Jvm.State) : (allAtoms ts).before a st = ts.all (fun c => c.before a st) := by
  induction ts with
  | nil => rfl
  | cons c t ih =>
    show (Jvm.Cond.and c (allAtoms t)).before a st = _
    rw [Jvm.Cond.before_and, ih, List.all_cons]
def words1 : List Jvm.Cond := Jvm.Cond.code x code maxLocals ret :: tables_1
/-- a 'code' word, met by the world's own term for the bytes: nothing is compared byte by byte -/
theorem code_word {y : MethodName} {bytes : ByteArray} {mx : Nat} {rt : Option FieldType} {a : Array Value} {s : State} {m : MethodId} {meth : Method} {c : Code} (h1 : s.methodNamed? y = some m) (h2 : s.vm.method? m = some meth) (h3 : meth.code = some c) (h4 : c.code = bytes)
    (h5 : (c.maxLocals == mx && c.exceptionTable.isEmpty && decide (c.maxStack ≤ mostOperands) && decide (meth.sig.returnType = rt) && !meth.locks && decide (parseMethodDescriptor y.desc = some meth.sig)) = true) : (Jvm.Cond.code y bytes mx rt).before a s = true := by
  simp only [Bool.and_eq_true, beq_iff_eq, Bool.not_eq_true', decide_eq_true_eq] at h5
  obtain ⟨⟨⟨⟨⟨g1, g2⟩, g3⟩, g4⟩, g5⟩, g6⟩ := h5
  simp [Cond.before, Cond.holds, Cond.value, h1, h2, h3, h4, g1, g2, g3, g4, g5, g6]
def isCode : Jvm.Cond → Bool
  | .code _ _ _ _ => true
  | _ => false
theorem all_split {L : List Jvm.Cond} {P : Jvm.Cond → Bool} (h1 : L.all (fun c => isCode c || P c) = true) (h2 : ∀ c ∈ L.filter isCode, P c = true) : L.all P = true := by
  refine List.all_eq_true.mpr fun c hc => ?_
  have h := List.all_eq_true.mp h1 c hc
  rcases Bool.eq_false_or_eq_true (isCode c) with hi | hi
  · exact h2 c (List.mem_filter.mpr ⟨hc, hi⟩)
  · simpa [hi] using h
set_option maxRecDepth 65536 in
theorem w_c0 : (Jvm.Cond.code x code maxLocals ret).before args0 about1 = true := code_word (m := ⟨1, 1⟩) (meth := k1m1) (c := k1c1) (by decide +kernel) rfl rfl rfl (by decide +kernel)
set_option maxRecDepth 65536 in
theorem w_c1 : (Jvm.Cond.code ({ cls := "com/example/iota_ranker/iotaranker/index/BitInput", name := "<init>", desc := "([B)V" } : Jvm.MethodName) prog_46_method_1_code (2 : Nat) (Option.none : Option Jvm.ClassFile.FieldType)).before args0 about1 = true := code_word (m := ⟨2, 0⟩) (meth := k2m0) (c := k2c0) (by decide +kernel) rfl rfl rfl (by decide +kernel)
set_option maxRecDepth 65536 in
theorem w_c2 : (Jvm.Cond.code ({ cls := "java/lang/Object", name := "<init>", desc := "()V" } : Jvm.MethodName) object_method_1_code (1 : Nat) (Option.none : Option Jvm.ClassFile.FieldType)).before args0 about1 = true := code_word (m := ⟨0, 0⟩) (meth := k0m0) (c := k0c0) (by decide +kernel) rfl rfl rfl (by decide +kernel)
set_option maxRecDepth 65536 in
theorem w_c3 : (Jvm.Cond.code ({ cls := "com/example/iota_ranker/iotaranker/index/BitInput", name := "readBits", desc := "(I)J" } : Jvm.MethodName) prog_46_method_2_code (4 : Nat) (Option.some Jvm.ClassFile.FieldType.long)).before args0 about1 = true := code_word (m := ⟨2, 1⟩) (meth := k2m1) (c := k2c1) (by decide +kernel) rfl rfl rfl (by decide +kernel)
set_option maxRecDepth 65536 in
theorem w_c4 : (Jvm.Cond.code ({ cls := "com/example/iota_ranker/iotaranker/index/BitInput", name := "atPadding", desc := "()Z" } : Jvm.MethodName) prog_46_method_6_code (1 : Nat) (Option.some Jvm.ClassFile.FieldType.boolean)).before args0 about1 = true := code_word (m := ⟨2, 2⟩) (meth := k2m2) (c := k2c2) (by decide +kernel) rfl rfl rfl (by decide +kernel)
set_option maxRecDepth 65536 in
theorem w_c5 : (Jvm.Cond.code ({ cls := "com/example/iota_ranker/iotaranker/index/BitInput", name := "load", desc := "()V" } : Jvm.MethodName) prog_46_method_8_code (1 : Nat) (Option.none : Option Jvm.ClassFile.FieldType)).before args0 about1 = true := code_word (m := ⟨2, 3⟩) (meth := k2m3) (c := k2c3) (by decide +kernel) rfl rfl rfl (by decide +kernel)
def codes1 : List Jvm.Cond := [Jvm.Cond.code x code maxLocals ret, Jvm.Cond.code ({ cls := "com/example/iota_ranker/iotaranker/index/BitInput", name := "<init>", desc := "([B)V" } : Jvm.MethodName) prog_46_method_1_code (2 : Nat) (Option.none : Option Jvm.ClassFile.FieldType), Jvm.Cond.code ({ cls := "java/lang/Object", name := "<init>", desc := "()V" } : Jvm.MethodName) object_method_1_code (1 : Nat) (Option.none : Option Jvm.ClassFile.FieldType), Jvm.Cond.code ({ cls := "com/example/iota_ranker/iotaranker/index/BitInput", name := "readBits", desc := "(I)J" } : Jvm.MethodName) prog_46_method_2_code (4 : Nat) (Option.some Jvm.ClassFile.FieldType.long), Jvm.Cond.code ({ cls := "com/example/iota_ranker/iotaranker/index/BitInput", name := "atPadding", desc := "()Z" } : Jvm.MethodName) prog_46_method_6_code (1 : Nat) (Option.some Jvm.ClassFile.FieldType.boolean), Jvm.Cond.code ({ cls := "com/example/iota_ranker/iotaranker/index/BitInput", name := "load", desc := "()V" } : Jvm.MethodName) prog_46_method_8_code (1 : Nat) (Option.none : Option Jvm.ClassFile.FieldType)]
set_option maxRecDepth 65536 in
theorem codes_eq : words1.filter isCode = codes1 := rfl
theorem w_codes : ∀ c ∈ words1.filter isCode, c.before args0 about1 = true := by
  rw [codes_eq]
  intro c hc
  simp only [codes1, List.mem_cons, List.not_mem_nil, or_false] at hc
  rcases hc with rfl | rfl | rfl | rfl | rfl | rfl
  · exact w_c0
  · exact w_c1
  · exact w_c2
  · exact w_c3
  · exact w_c4
  · exact w_c5
set_option maxRecDepth 65536 in
theorem w_t1 : (words1.take 24).all (fun c => isCode c || c.before args0 about1) = true := by decide +kernel
set_option maxRecDepth 65536 in
theorem w_t2 : (words1.drop 24).all (fun c => isCode c || c.before args0 about1) = true := by decide +kernel
theorem w_tables : (allAtoms (Jvm.Cond.code x code maxLocals ret :: tables_1)).before args0 about1 = true := by
  rw [allAtoms_all]
  show words1.all (fun c => c.before args0 about1) = true
  refine all_split ?_ w_codes
  rw [← List.take_append_drop 24 words1, List.all_append, w_t1, w_t2]
  rfl
set_option maxRecDepth 65536 in
theorem w_case : (Jvm.Cond.and given_1 narrow_1).before args0 about1 = true := by decide +kernel
theorem w_applies : (headSpec (Jvm.Cond.code x code maxLocals ret :: tables_1) room_1).applies x e0.platform about1 = true :=
  (Spec.applies_iff w_frames).mpr ⟨w_running, w_runnable, w_alone, w_named, w_hears, w_ripe, w_room, w_tables⟩
theorem atStart : AtStart classFile x code maxLocals ret World_1 tables_1 room_1 Calls_1 rest_1 Pre_1 launch0 p0 e0 about1 theMethod args0 below0 :=
  ⟨lists_1, trivial, launch0.admits_env _ _ _, launch0.least_env, fairChoices_fair.cas, fairChoices_fair.clock, w_frames, w_args, w_heap, w_applies, trivial, trivial, w_case⟩
end start1
theorem witness_1 : WitnessClaimed_1 := ⟨start1.p0, start1.e0, start1.about1, start1.theMethod, start1.args0, start1.below0, start1.atStart⟩
end Jvm.Pilot.@@N@@
