import JvmDerived
import JvmDerived.Pilot.@@N@@Statement
import JvmDerived.Pilot.@@N@@Code
set_option linter.unusedVariables false
set_option linter.unusedSimpArgs false
namespace Jvm.RoadKit
open Sem ClassFile Op Lib Jvm.Stand Jvm.Free Jvm.LawKit
section OwnKit
variable {p : Program} {l : Launch} {e : Env} {R : Room} {s : State} {m : MethodId} {args : Array Value} {below : List Frame} {meth : Method} {c : Code} {T : State} {locs : List Loc} {cells slots : Nat} {Q : Option Value → Heap → List Loc → Prop} {rc rs : Nat}
theorem retI (X : Stand p l e R s m args below meth c T locs cells slots) (hx : p.tables.exec = Jvm.exec) {pc : Nat} {Ls : Array Slot} {z : Int32} {rest : List Value} (hret : meth.sig.returnType = some .int) (hd : decode c.code pc = .ok (.ireturn, 1)) {fs : List Frame}
    (hl : ∀ (f : JFrame) (acts : List Action), f.method = m → f.locked = none → f.entered = [] → (doReturn e (T.setTop f) acts (some (.int z))).1 = T.setFrames fs) : Steps p.tables e below (T.setTop (mkF m pc Ls (.int z :: rest))) (T.setFrames fs) := by
  have hm' : T.vm.method? m = some meth := X.method'
  have hn : narrow .int (.int z) = .int z := rfl
  show Steps p.tables e below (T.setTop { method := m, pc := pc, locals := Ls, stack := _ :: rest, locked := none }) _
  jvm_step X.here [X.here.top, hx, hd, hm', hret, hn]
  first | (intro acts; rw [hl _ acts rfl rfl rfl]) | rw [hl _ _ rfl rfl rfl]
  exact Steps.refl _
theorem own_retA (X : Stand p l e R s m args below meth c T locs cells slots) (hx : p.tables.exec = Jvm.exec) {pc : Nat} {Ls : Array Slot} {w : Value} {ty : FieldType} {rest : List Value} (hw : w.isRef = true) (hty : ty.isReference = true) (hret : meth.sig.returnType = some ty) (hd : decode c.code pc = .ok (.areturn, 1)) {fs : List Frame}
    (hl : ∀ (f : JFrame) (acts : List Action), f.method = m → f.locked = none → f.entered = [] → (doReturn e (T.setTop f) acts (some w)).1 = T.setFrames fs) : Steps p.tables e below (T.setTop (mkF m pc Ls (w :: rest))) (T.setFrames fs) := by
  have hm' : T.vm.method? m = some meth := X.method'
  show Steps p.tables e below (T.setTop { method := m, pc := pc, locals := Ls, stack := _ :: rest, locked := none }) _
  jvm_step X.here [X.here.top, hx, hd, hm', hret, hw, hty]
  first | (intro acts; rw [hl _ acts rfl rfl rfl]) | rw [hl _ _ rfl rfl rfl]
  exact Steps.refl _
theorem own_retL (X : Stand p l e R s m args below meth c T locs cells slots) (hx : p.tables.exec = Jvm.exec) {pc : Nat} {Ls : Array Slot} {z : Int64} {rest : List Value} (hret : meth.sig.returnType = some .long) (hd : decode c.code pc = .ok (.lreturn, 1)) {fs : List Frame}
    (hl : ∀ (f : JFrame) (acts : List Action), f.method = m → f.locked = none → f.entered = [] → (doReturn e (T.setTop f) acts (some (.long z))).1 = T.setFrames fs) : Steps p.tables e below (T.setTop (mkF m pc Ls (.long z :: rest))) (T.setFrames fs) := by
  have hm' : T.vm.method? m = some meth := X.method'
  show Steps p.tables e below (T.setTop { method := m, pc := pc, locals := Ls, stack := _ :: rest, locked := none }) _
  jvm_step X.here [X.here.top, hx, hd, hm', hret]
  first | (intro acts; rw [hl _ acts rfl rfl rfl]) | rw [hl _ _ rfl rfl rfl]
  exact Steps.refl _
theorem own_retDbl (X : Stand p l e R s m args below meth c T locs cells slots) (hx : p.tables.exec = Jvm.exec) {pc : Nat} {Ls : Array Slot} {z : UInt64} {rest : List Value} (hret : meth.sig.returnType = some .double) (hd : decode c.code pc = .ok (.dreturn, 1)) {fs : List Frame}
    (hl : ∀ (f : JFrame) (acts : List Action), f.method = m → f.locked = none → f.entered = [] → (doReturn e (T.setTop f) acts (some (.double z))).1 = T.setFrames fs) : Steps p.tables e below (T.setTop (mkF m pc Ls (.double z :: rest))) (T.setFrames fs) := by
  have hm' : T.vm.method? m = some meth := X.method'
  show Steps p.tables e below (T.setTop { method := m, pc := pc, locals := Ls, stack := _ :: rest, locked := none }) _
  jvm_step X.here [X.here.top, hx, hd, hm', hret]
  first | (intro acts; rw [hl _ acts rfl rfl rfl]) | rw [hl _ _ rfl rfl rfl]
  exact Steps.refl _
/-- what is left to be shown from the state A on: the run comes back, and Q holds of what it leaves -/
def OwnG (p : Program) (e : Env) (below : List Frame) (s : State) (Q : Option Value → Heap → List Loc → Prop) (rc rs : Nat) (A : State) : Prop :=
  ∃ s₂ o, Steps p.tables e below A s₂ ∧ s₂.status = .running ∧ Ended s₂ below o ∧ ∃ v L, o = .returned v ∧ Q v s₂.heap L ∧ FrameEnd s o s₂ L rc rs
theorem own_by {A B : State} (k : ∀ t, Steps p.tables e below B t → Steps p.tables e below A t) (h : OwnG p e below s Q rc rs B) : OwnG p e below s Q rc rs A := by
  obtain ⟨s₂, o, h1, r⟩ := h
  exact ⟨s₂, o, k _ h1, r⟩
theorem own_out (X : Stand p l e R s m args below meth c T locs cells slots) {v : Option Value} (hv : meth.sig.returnType = none → v = none) (hlk : meth.locks = false) {A : State}
    (k : ∀ fs, (∀ (f : JFrame) (acts : List Action), f.method = m → f.locked = none → f.entered = [] → (doReturn e (T.setTop f) acts v).1 = T.setFrames fs) → Steps p.tables e below A (T.setFrames fs)) (hQ : Q v T.heap locs) (hc : cells ≤ rc) (hs : slots ≤ rs) : OwnG p e below s Q rc rs A := by
  obtain ⟨fs, hr, hrun, hended, hW, hsame⟩ := X.leave (v := v) hv hlk
  exact ⟨_, _, k fs hr, hrun, hended, _, _, rfl, hQ, ⟨_, rfl⟩, hW, hsame.mono hc hs⟩
theorem own_outI (X : Stand p l e R s m args below meth c T locs cells slots) (hx : p.tables.exec = Jvm.exec) {pc : Nat} {Ls : Array Slot} {z : Int32} {rest : List Value} (hret : meth.sig.returnType = some .int) (hlk : meth.locks = false) (hd : decode c.code pc = .ok (.ireturn, 1)) (hQ : Q (some (.int z)) T.heap locs) (hc : cells ≤ rc) (hs : slots ≤ rs) :
    OwnG p e below s Q rc rs (T.setTop (mkF m pc Ls (.int z :: rest))) :=
  own_out X (v := some (.int z)) (fun h => by rw [hret] at h; cases h) hlk (fun fs hr => retI X hx hret hd hr) hQ hc hs
theorem own_outA (X : Stand p l e R s m args below meth c T locs cells slots) (hx : p.tables.exec = Jvm.exec) {pc : Nat} {Ls : Array Slot} {w : Value} {ty : FieldType} {rest : List Value} (hw : w.isRef = true) (hty : ty.isReference = true) (hret : meth.sig.returnType = some ty) (hlk : meth.locks = false) (hd : decode c.code pc = .ok (.areturn, 1)) (hQ : Q (some w) T.heap locs) (hc : cells ≤ rc) (hs : slots ≤ rs) :
    OwnG p e below s Q rc rs (T.setTop (mkF m pc Ls (w :: rest))) :=
  own_out X (v := some w) (fun h => by rw [hret] at h; cases h) hlk (fun fs hr => own_retA X hx hw hty hret hd hr) hQ hc hs
theorem own_outL (X : Stand p l e R s m args below meth c T locs cells slots) (hx : p.tables.exec = Jvm.exec) {pc : Nat} {Ls : Array Slot} {z : Int64} {rest : List Value} (hret : meth.sig.returnType = some .long) (hlk : meth.locks = false) (hd : decode c.code pc = .ok (.lreturn, 1)) (hQ : Q (some (.long z)) T.heap locs) (hc : cells ≤ rc) (hs : slots ≤ rs) :
    OwnG p e below s Q rc rs (T.setTop (mkF m pc Ls (.long z :: rest))) :=
  own_out X (v := some (.long z)) (fun h => by rw [hret] at h; cases h) hlk (fun fs hr => own_retL X hx hret hd hr) hQ hc hs
theorem own_outD (X : Stand p l e R s m args below meth c T locs cells slots) (hx : p.tables.exec = Jvm.exec) {pc : Nat} {Ls : Array Slot} {z : UInt64} {rest : List Value} (hret : meth.sig.returnType = some .double) (hlk : meth.locks = false) (hd : decode c.code pc = .ok (.dreturn, 1)) (hQ : Q (some (.double z)) T.heap locs) (hc : cells ≤ rc) (hs : slots ≤ rs) :
    OwnG p e below s Q rc rs (T.setTop (mkF m pc Ls (.double z :: rest))) :=
  own_out X (v := some (.double z)) (fun h => by rw [hret] at h; cases h) hlk (fun fs hr => own_retDbl X hx hret hd hr) hQ hc hs
theorem own_outV (X : Stand p l e R s m args below meth c T locs cells slots) (hx : p.tables.exec = Jvm.exec) {pc : Nat} {Ls : Array Slot} (hret : meth.sig.returnType = none) (hlk : meth.locks = false) (hd : decode c.code pc = .ok (.return_, 1)) (hQ : Q none T.heap locs) (hc : cells ≤ rc) (hs : slots ≤ rs) :
    OwnG p e below s Q rc rs (T.setTop (mkF m pc Ls [])) :=
  own_out X (v := none) (fun _ => rfl) hlk (fun fs hr => X.returnOut hx hret hd hr) hQ hc hs
theorem own_outN (X : Stand p l e R s m args below meth c T locs cells slots) (hx : p.tables.exec = Jvm.exec) {pc : Nat} {Ls : Array Slot} {z z' : Int32} {t : FieldType} {rest : List Value} (hret : meth.sig.returnType = some t) (ht : t = .boolean ∨ t = .byte ∨ t = .char ∨ t = .short) (hlk : meth.locks = false) (hd : decode c.code pc = .ok (.ireturn, 1)) (hz : nar t z = z') (hQ : Q (some (.int z')) T.heap locs) (hc : cells ≤ rc) (hs : slots ≤ rs) :
    OwnG p e below s Q rc rs (T.setTop (mkF m pc Ls (.int z :: rest))) := by
  subst hz
  exact own_out X (v := some (.int (nar t z))) (fun h => by rw [hret] at h; cases h) hlk (fun fs hr => retN X hx (t := t) hret (by rcases ht with rfl | rfl | rfl | rfl <;> simp) hd hr) hQ hc hs
theorem own_met {y : MethodName} {bytes : ByteArray} {maxL : Nat} {ret : Option FieldType} {rm : Room} {ws : List Cond} {as' : Array Value} {Z : State} {h0 : Heap} (hpl : plainFor y = true)
    (body : ∀ (p : Program) (e : Env) (s : State) (m : MethodId) (below : List Frame) (meth : Method) (c : Code) (s₁ : State), p.tables.exec = Jvm.exec → c.code = bytes → c.maxLocals = maxL → meth.sig.returnType = ret → meth.locks = false → s.vm.findClass y.cls = some m.cls → meth.name = y.name → Z.Warmed39 s.vm →
      Stand p l e rm s m as' below meth c s₁ [] 0 0 → s₁.heap = h0 → OwnG p e below s Q rm.cells rm.slots (s₁.setTop (entryFrame m as' maxL))) :
    MetFree l y (head1 (Cond.code y bytes maxL ret :: ws) rm) (fun a U => a = as' ∧ Z.Warmed39 U.vm ∧ U.heap = h0) (fun _ _ _ _ _ => True) (fun _ U o U' => ∃ v L, o = .returned v ∧ Q v U'.heap L ∧ FrameEnd U o U' L rm.cells rm.slots) := by
  refine MetFree.of_bodySF hpl hisR ?_
  intro p e s m args below meth c s₁ Bd hml0 hP hK
  obtain ⟨rfl, hZ, hh⟩ := hP
  have e0 : s₁.heap = h0 := by rw [← hh, Bd.state]; rfl
  exact body p e s m below meth c s₁ Bd.exec Bd.bytes hml0 Bd.returns Bd.notSynchronized (findClass_of_methodNamed Bd.named) (name_of_methodNamed Bd.named Bd.method).1 hZ (Stand.of_body Bd) e0
theorem own_pop2J {tb : Tables} [Ours tb] {target : State} {g : JFrame} (h : At T m c below) (hx : tb.exec = Jvm.exec) (hg : g.method = m) {x : Int64} {rest : List Value} (hd : decode c.code g.pc = .ok (.pop2, 1)) (hs : g.stack = .long x :: rest)
    (hr : Steps tb e below (T.setTop { g with pc := g.pc + 1, stack := rest }) target) : Steps tb e below (T.setTop g) target := by
  subst hg
  jvm_step h [h.top, hx, hd, hs, Value.category]
  exact hr
theorem own_dup2I {tb : Tables} [Ours tb] {target : State} {g : JFrame} (h : At T m c below) (hx : tb.exec = Jvm.exec) (hg : g.method = m) {x : Int32} {a : Addr} {rest : List Value} (hd : decode c.code g.pc = .ok (.dup2, 1)) (hs : g.stack = .int x :: .ref a :: rest)
    (hr : Steps tb e below (T.setTop { g with pc := g.pc + 1, stack := .int x :: .ref a :: .int x :: .ref a :: rest }) target) : Steps tb e below (T.setTop g) target := by
  subst hg
  jvm_step h [h.top, hx, hd, hs, Value.category]
  exact hr
theorem own_selp {Z s : State} {a0 args : Array Value} {y : MethodName} {n : Nat} (hZ : Z.Warmed39 s.vm) (wi : (Cond.instantiable y.cls n).before a0 Z = true) (wp : (Cond.privateMethod y).before a0 Z = true) (wm : (Cond.instanceMethod y).before a0 Z = true) (hy : y.cls ≠ "java/lang/invoke/MethodHandle" ∧ y.cls ≠ "java/lang/invoke/VarHandle") : (Cond.selects y.cls y y).before args s = true := by
  obtain ⟨c, k, h1, h2, -, h4, -⟩ := Cond.instantiable_spec (mv (args := args) hZ wi)
  exact selects_self_of_private h1 h2 (Bool.or_eq_false_iff.mp h4).1 (Cond.privateMethod_at (mvP hZ wp (args := #[]))) (mvT hZ wm) hy
end OwnKit
end Jvm.RoadKit
namespace Jvm.RoadKit
open Sem ClassFile Op Lib Jvm.Stand Jvm.Free Jvm.LawKit
section OwnArr
variable {p : Program} {l : Launch} {e : Env} {R : Room} {s : State} {m : MethodId} {args : Array Value} {below : List Frame} {meth : Method} {c : Code} {T : State} {locs : List Loc} {cells slots : Nat} {Z : State} {h h' : Heap} {a b : Addr} {ty : FieldType} {n : Nat} {f : Nat → Value}
/-- the array at a: its kind, its length, its components as a function of the place -/
def OwnA (Z : State) (h : Heap) (a : Addr) (ty : FieldType) (n : Nat) (f : Nat → Value) : Prop := ∃ c : Cell, Arr Z h a c ty ∧ c.slots.size = n ∧ n < 2 ^ 31 ∧ ∀ k, k < n → c.slots[k]? = some (f k)
def ownSet (f : Nat → Value) (i : Nat) (v : Value) : Nat → Value := fun k => if k = i then v else f k
theorem OwnA.lt (A : OwnA Z h a ty n f) : a < h.size := by obtain ⟨c, A, -⟩ := A; exact A.lt
theorem OwnA.ext (E : Ext h h') (A : OwnA Z h a ty n f) : OwnA Z h' a ty n f := by obtain ⟨c, A, r⟩ := A; exact ⟨c, A.ext E, r⟩
theorem OwnA.other {sl : Nat} {v : Value} (W : Wr h h' b sl v) (A : OwnA Z h a ty n f) (q : a ≠ b) : OwnA Z h' a ty n f := by obtain ⟨c, A, r⟩ := A; exact ⟨c, A.other W q, r⟩
theorem OwnA.keep {ws : List Addr} (A : OwnA Z h a ty n f) (K : Keep h h' ws) (q : a ∉ ws) : OwnA Z h' a ty n f := by obtain ⟨c, A, r⟩ := A; exact ⟨c, ⟨K.2.1 a c A.1 q, A.2⟩, r⟩
theorem OwnA.set {i : Nat} {v : Value} (W : Wr h h' a i v) (A : OwnA Z h a ty n f) (hi : i < n) : OwnA Z h' a ty n (ownSet f i v) := by
  obtain ⟨c, A, hn, hb, r⟩ := A
  refine ⟨_, A.same W, by simp [Cell.setSlot, hn], hb, fun k hk => ?_⟩
  by_cases e : k = i
  · subst e
    simp [Cell.setSlot, ownSet, hn, hi]
  · simp only [ownSet, if_neg e]
    rw [← r k hk]
    exact Array.getElem?_setIfInBounds_ne (Ne.symm e)
theorem OwnA.new {k : ClassId} {z : Int32} (A : Arr Z h a (newA k ty z) ty) {n : Nat} (q : ¬ z < 0) (hn : z.toNatClampNeg = n) : OwnA Z h a ty n (fun _ => defaultValue ty) := by
  subst hn
  refine ⟨_, A, sz_new _ _ _, (back32 q).2, fun i hi => ?_⟩
  simp [newA, hi]
theorem OwnA.bound (A : OwnA Z h a ty n f) : n < 2 ^ 31 := by obtain ⟨_, _, _, hb, _⟩ := A; exact hb
theorem OwnA.congr {f' : Nat → Value} (A : OwnA Z h a ty n f) (q : ∀ k, k < n → f k = f' k) : OwnA Z h a ty n f' := by
  obtain ⟨c, A, hn, hb, r⟩ := A
  exact ⟨c, A, hn, hb, fun k hk => by rw [r k hk, q k hk]⟩
theorem own_inb {c : Cell} {j : Int32} {i : Nat} (hn : c.slots.size = n) (hj : ¬ j < 0 ∧ j.toNatClampNeg = i ∧ i < n) : ¬ (j < 0 ∨ c.slots.size ≤ j.toNatClampNeg) := by
  rintro (q | q)
  · exact hj.1 q
  · rw [hn, hj.2.1] at q; exact absurd hj.2.2 (Nat.not_lt.mpr q)
theorem own_ldI (X : Stand p l e R s m args below meth c T locs cells slots) (hx : p.tables.exec = Jvm.exec) (hZ : Z.Warmed39 s.vm) (eT : T.heap = h) (A : OwnA Z h a .int n f) {j : Int32} {i : Nat} (hj : ¬ j < 0 ∧ j.toNatClampNeg = i ∧ i < n) {v : Value} (hv : f i = v) {g : JFrame} (hg : g.method = m) {rest : List Value} (hs : g.stack = .int j :: .ref a :: rest) (hd : decode c.code g.pc = .ok (.iaload, 1)) (target : State)
    (k : Steps p.tables e below (T.setTop { g with pc := g.pc + 1, stack := v :: rest }) target) : Steps p.tables e below (T.setTop g) target := by
  obtain ⟨cl, A, hn, hb, r⟩ := A
  exact X.iaload hx (j := j) (v := v) (by rw [eT]; exact A.1) (State.isArrayOf_alike hZ.alike A.2.1) A.2.2 (own_inb hn hj) (by rw [hj.2.1, r i hj.2.2, hv]) hg hs hd target k
theorem own_ldB (X : Stand p l e R s m args below meth c T locs cells slots) (hx : p.tables.exec = Jvm.exec) (hZ : Z.Warmed39 s.vm) (eT : T.heap = h) (A : OwnA Z h a .byte n f) {j : Int32} {i : Nat} (hj : ¬ j < 0 ∧ j.toNatClampNeg = i ∧ i < n) {v : Value} (hv : f i = v) {g : JFrame} (hg : g.method = m) {rest : List Value} (hs : g.stack = .int j :: .ref a :: rest) (hd : decode c.code g.pc = .ok (.baload, 1)) (target : State)
    (k : Steps p.tables e below (T.setTop { g with pc := g.pc + 1, stack := v :: rest }) target) : Steps p.tables e below (T.setTop g) target := by
  obtain ⟨cl, A, hn, hb, r⟩ := A
  exact X.baloadBytes hx (j := j) (v := v) (by rw [eT]; exact A.1) (State.isArrayOf_alike hZ.alike A.2.1) A.2.2 (own_inb hn hj) (by rw [hj.2.1, r i hj.2.2, hv]) hg hs hd target k
theorem own_ldJ (X : Stand p l e R s m args below meth c T locs cells slots) (hx : p.tables.exec = Jvm.exec) (hZ : Z.Warmed39 s.vm) (eT : T.heap = h) (A : OwnA Z h a .long n f) {j : Int32} {i : Nat} (hj : ¬ j < 0 ∧ j.toNatClampNeg = i ∧ i < n) {v : Value} (hv : f i = v) {g : JFrame} (hg : g.method = m) {rest : List Value} (hs : g.stack = .int j :: .ref a :: rest) (hd : decode c.code g.pc = .ok (.laload, 1)) (target : State)
    (k : Steps p.tables e below (T.setTop { g with pc := g.pc + 1, stack := v :: rest }) target) : Steps p.tables e below (T.setTop g) target := by
  obtain ⟨cl, A, hn, hb, r⟩ := A
  exact X.laload hx (j := j) (v := v) (by rw [eT]; exact A.1) (State.isArrayOf_alike hZ.alike A.2.1) A.2.2 (own_inb hn hj) (by rw [hj.2.1, r i hj.2.2, hv]) hg hs hd target k
theorem own_ldR (X : Stand p l e R s m args below meth c T locs cells slots) (hx : p.tables.exec = Jvm.exec) (hZ : Z.Warmed39 s.vm) (eT : T.heap = h) (A : OwnA Z h a ty n f) {j : Int32} {i : Nat} (hj : ¬ j < 0 ∧ j.toNatClampNeg = i ∧ i < n) {v : Value} (hv : f i = v) (hty : ty.isReference = true) {g : JFrame} (hg : g.method = m) {rest : List Value} (hs : g.stack = .int j :: .ref a :: rest) (hd : decode c.code g.pc = .ok (.aaload, 1)) (target : State)
    (k : Steps p.tables e below (T.setTop { g with pc := g.pc + 1, stack := v :: rest }) target) : Steps p.tables e below (T.setTop g) target := by
  obtain ⟨cl, A, hn, hb, r⟩ := A
  exact X.aaload hx (j := j) (v := v) (by rw [eT]; exact A.1) (State.isArrayOf_alike hZ.alike A.2.1) hty A.2.2 (own_inb hn hj) (by rw [hj.2.1, r i hj.2.2, hv]) hg hs hd target k
theorem own_len (X : Stand p l e R s m args below meth c T locs cells slots) (hx : p.tables.exec = Jvm.exec) (hZ : Z.Warmed39 s.vm) (eT : T.heap = h) (A : OwnA Z h a ty n f) {z : Int32} (hz : n.toInt32 = z) {g : JFrame} (hg : g.method = m) {rest : List Value} (hs : g.stack = .ref a :: rest) (hd : decode c.code g.pc = .ok (.arraylength, 1)) (target : State)
    (k : Steps p.tables e below (T.setTop { g with pc := g.pc + 1, stack := .int z :: rest }) target) : Steps p.tables e below (T.setTop g) target := by
  obtain ⟨cl, A, hn, hb, r⟩ := A
  refine X.arraylength hx (by rw [eT]; exact A.1) (State.isArrayOf_alike hZ.alike A.2.1) hg hs hd target ?_
  rw [hn, hz]; exact k
theorem own_stI (X : Stand p l e R s m args below meth c T locs cells slots) (hx : p.tables.exec = Jvm.exec) (hZ : Z.Warmed39 s.vm) (eT : T.heap = h) (A : OwnA Z h a .int n f) {j : Int32} {i : Nat} (hj : ¬ j < 0 ∧ j.toNatClampNeg = i ∧ i < n) {x : Int32} {g : JFrame} (hg : g.method = m) {rest : List Value} (hs : g.stack = .int x :: .int j :: .ref a :: rest) (hd : decode c.code g.pc = .ok (.iastore, 1)) :
    ∃ T' h', Stand p l e R s m args below meth c T' (locs ++ [⟨a, i⟩]) cells slots ∧ T'.heap = h' ∧ Wr h h' a i (.int x) ∧ OwnA Z h' a .int n (ownSet f i (.int x)) ∧ ∀ target, Steps p.tables e below (T'.setTop { g with pc := g.pc + 1, stack := rest }) target → Steps p.tables e below (T.setTop g) target := by
  obtain ⟨cl, A', hn, hb, r⟩ := A
  obtain ⟨T', h', X', e', W, st⟩ := stI X hx hZ eT A' (j := j) (x := x) (own_inb hn hj) hg hs hd
  rw [hj.2.1] at X' W
  exact ⟨T', h', X', e', W, OwnA.set W ⟨cl, A', hn, hb, r⟩ hj.2.2, st⟩
theorem own_stJ (X : Stand p l e R s m args below meth c T locs cells slots) (hx : p.tables.exec = Jvm.exec) (hZ : Z.Warmed39 s.vm) (eT : T.heap = h) (A : OwnA Z h a .long n f) {j : Int32} {i : Nat} (hj : ¬ j < 0 ∧ j.toNatClampNeg = i ∧ i < n) {x : Int64} {g : JFrame} (hg : g.method = m) {rest : List Value} (hs : g.stack = .long x :: .int j :: .ref a :: rest) (hd : decode c.code g.pc = .ok (.lastore, 1)) :
    ∃ T' h', Stand p l e R s m args below meth c T' (locs ++ [⟨a, i⟩]) cells slots ∧ T'.heap = h' ∧ Wr h h' a i (.long x) ∧ OwnA Z h' a .long n (ownSet f i (.long x)) ∧ ∀ target, Steps p.tables e below (T'.setTop { g with pc := g.pc + 1, stack := rest }) target → Steps p.tables e below (T.setTop g) target := by
  obtain ⟨cl, A', hn, hb, r⟩ := A
  obtain ⟨T', h', X', e', W, st⟩ := stJ X hx hZ eT A' (j := j) (x := x) (own_inb hn hj) hg hs hd
  rw [hj.2.1] at X' W
  exact ⟨T', h', X', e', W, OwnA.set W ⟨cl, A', hn, hb, r⟩ hj.2.2, st⟩
theorem own_stB (X : Stand p l e R s m args below meth c T locs cells slots) (hx : p.tables.exec = Jvm.exec) (hZ : Z.Warmed39 s.vm) (eT : T.heap = h) (A : OwnA Z h a .byte n f) {j : Int32} {i : Nat} (hj : ¬ j < 0 ∧ j.toNatClampNeg = i ∧ i < n) {x : Int32} {g : JFrame} (hg : g.method = m) {rest : List Value} (hs : g.stack = .int x :: .int j :: .ref a :: rest) (hd : decode c.code g.pc = .ok (.bastore, 1)) :
    ∃ T' h', Stand p l e R s m args below meth c T' (locs ++ [⟨a, i⟩]) cells slots ∧ T'.heap = h' ∧ Wr h h' a i (.int (nar .byte x)) ∧ OwnA Z h' a .byte n (ownSet f i (.int (nar .byte x))) ∧ ∀ target, Steps p.tables e below (T'.setTop { g with pc := g.pc + 1, stack := rest }) target → Steps p.tables e below (T.setTop g) target := by
  obtain ⟨cl, A', hn, hb, r⟩ := A
  obtain ⟨T', h', X', e', W, st⟩ := stB X hx hZ eT A' (j := j) (x := x) (own_inb hn hj) hg hs hd
  rw [hj.2.1] at X' W
  exact ⟨T', h', X', e', W, OwnA.set W ⟨cl, A', hn, hb, r⟩ hj.2.2, st⟩
theorem own_ldC (X : Stand p l e R s m args below meth c T locs cells slots) (hx : p.tables.exec = Jvm.exec) (hZ : Z.Warmed39 s.vm) (eT : T.heap = h) (A : OwnA Z h a .char n f) {j : Int32} {i : Nat} (hj : ¬ j < 0 ∧ j.toNatClampNeg = i ∧ i < n) {v : Value} (hv : f i = v) {g : JFrame} (hg : g.method = m) {rest : List Value} (hs : g.stack = .int j :: .ref a :: rest) (hd : decode c.code g.pc = .ok (.caload, 1)) (target : State)
    (k : Steps p.tables e below (T.setTop { g with pc := g.pc + 1, stack := v :: rest }) target) : Steps p.tables e below (T.setTop g) target := by
  obtain ⟨cl, A, hn, hb, r⟩ := A
  exact X.caload hx (j := j) (v := v) (by rw [eT]; exact A.1) (State.isArrayOf_alike hZ.alike A.2.1) A.2.2 (own_inb hn hj) (by rw [hj.2.1, r i hj.2.2, hv]) hg hs hd target k
theorem own_stC (X : Stand p l e R s m args below meth c T locs cells slots) (hx : p.tables.exec = Jvm.exec) (hZ : Z.Warmed39 s.vm) (eT : T.heap = h) (A : OwnA Z h a .char n f) {j : Int32} {i : Nat} (hj : ¬ j < 0 ∧ j.toNatClampNeg = i ∧ i < n) {x : Int32} {g : JFrame} (hg : g.method = m) {rest : List Value} (hs : g.stack = .int x :: .int j :: .ref a :: rest) (hd : decode c.code g.pc = .ok (.castore, 1)) :
    ∃ T' h', Stand p l e R s m args below meth c T' (locs ++ [⟨a, i⟩]) cells slots ∧ T'.heap = h' ∧ Wr h h' a i (.int (nar .char x)) ∧ OwnA Z h' a .char n (ownSet f i (.int (nar .char x))) ∧ ∀ target, Steps p.tables e below (T'.setTop { g with pc := g.pc + 1, stack := rest }) target → Steps p.tables e below (T.setTop g) target := by
  obtain ⟨cl, A', hn, hb, r⟩ := A
  obtain ⟨T', h', X', e', W, st⟩ := stC X hx hZ eT A' (j := j) (x := x) (own_inb hn hj) hg hs hd
  rw [hj.2.1] at X' W
  exact ⟨T', h', X', e', W, OwnA.set W ⟨cl, A', hn, hb, r⟩ hj.2.2, st⟩
theorem own_ldD (X : Stand p l e R s m args below meth c T locs cells slots) (hx : p.tables.exec = Jvm.exec) (hZ : Z.Warmed39 s.vm) (eT : T.heap = h) (A : OwnA Z h a .double n f) {j : Int32} {i : Nat} (hj : ¬ j < 0 ∧ j.toNatClampNeg = i ∧ i < n) {v : Value} (hv : f i = v) {g : JFrame} (hg : g.method = m) {rest : List Value} (hs : g.stack = .int j :: .ref a :: rest) (hd : decode c.code g.pc = .ok (.daload, 1)) (target : State)
    (k : Steps p.tables e below (T.setTop { g with pc := g.pc + 1, stack := v :: rest }) target) : Steps p.tables e below (T.setTop g) target := by
  obtain ⟨cl, A, hn, hb, r⟩ := A
  exact X.daload hx (j := j) (v := v) (by rw [eT]; exact A.1) (State.isArrayOf_alike hZ.alike A.2.1) A.2.2 (own_inb hn hj) (by rw [hj.2.1, r i hj.2.2, hv]) hg hs hd target k
theorem own_stD (X : Stand p l e R s m args below meth c T locs cells slots) (hx : p.tables.exec = Jvm.exec) (hZ : Z.Warmed39 s.vm) (eT : T.heap = h) (A : OwnA Z h a .double n f) {j : Int32} {i : Nat} (hj : ¬ j < 0 ∧ j.toNatClampNeg = i ∧ i < n) {x : UInt64} {g : JFrame} (hg : g.method = m) {rest : List Value} (hs : g.stack = .double x :: .int j :: .ref a :: rest) (hd : decode c.code g.pc = .ok (.dastore, 1)) :
    ∃ T' h', Stand p l e R s m args below meth c T' (locs ++ [⟨a, i⟩]) cells slots ∧ T'.heap = h' ∧ Wr h h' a i (.double x) ∧ OwnA Z h' a .double n (ownSet f i (.double x)) ∧ ∀ target, Steps p.tables e below (T'.setTop { g with pc := g.pc + 1, stack := rest }) target → Steps p.tables e below (T.setTop g) target := by
  obtain ⟨cl, A', hn, hb, r⟩ := A
  obtain ⟨T', h', X', e', W, st⟩ := stD X hx hZ eT A' (j := j) (x := x) (own_inb hn hj) hg hs hd
  rw [hj.2.1] at X' W
  exact ⟨T', h', X', e', W, OwnA.set W ⟨cl, A', hn, hb, r⟩ hj.2.2, st⟩
end OwnArr
end Jvm.RoadKit
namespace Jvm.Pilot.@@N@@
open Jvm Jvm.ClassFile Sem Op Lib Jvm.Free Jvm.Stand Jvm.LawKit Jvm.RoadKit Bundle Jvm.Pilot.@@N@@.Jvm.D
open Jvm.FP Jvm.Free.Fl
theorem own_w {Z : State} {a0 : Array Value} (hw : ∀ d ∈ tables_1, d.before a0 Z = true) (i : Nat) {d : Jvm.Cond} (h : tables_1[i]? = some d) : d.before a0 Z = true := hw d (List.mem_of_getElem? h)
theorem own_b53 (a : Int32) : B53 a.toInt64 := by
  have h1 := a.le_toInt
  have h2 := a.toInt_lt
  unfold B53
  rw [Int32.toInt_toInt64]
  omega
theorem own_dc (a b : Int32) (o : CmpOp) : cmpValue (FP.dcmp (FP.i2d a) (FP.i2d b)) o = lcmpW a.toInt64 b.toInt64 := by
  rw [i2d_w, i2d_w]; exact dcmpV_w (own_b53 a) (own_b53 b) o
def own_ok (d : Int32) : Prop := d = 0 ∨ d = 1 ∨ d = 2 ∨ d = 3
def own_K (sv pl : Int32 → Int32) (d : Int32) : Int := (sv d).toInt * 8589934592 + (pl d).toInt
def own_b (P : Prop) [Decidable P] : Int32 := if P then 1 else 0
theorem own_Kiff (sv pl : Int32 → Int32) (a b : Int32) : own_K sv pl a < own_K sv pl b ↔ ((sv a).toInt64 < (sv b).toInt64 ∨ ((sv a).toInt64 = (sv b).toInt64 ∧ pl a < pl b)) := by
  rw [Int64.lt_iff_toInt_lt, Int32.toInt_toInt64, Int32.toInt_toInt64, Int32.lt_iff_toInt_lt, ← Int64.toInt_inj, Int32.toInt_toInt64, Int32.toInt_toInt64]
  have ha := rng32 (sv a); have hi := rng32 (pl a); have hb := rng32 (sv b); have hj := rng32 (pl b)
  unfold own_K
  omega
theorem own_bT {P : Prop} [Decidable P] (h : P) : own_b P = 1 := if_pos h
theorem own_bF {P : Prop} [Decidable P] (h : ¬ P) : own_b P = 0 := if_neg h
theorem own_w1 {sv pl : Int32 → Int32} {a b : Int32} (h : (sv a).toInt64 < (sv b).toInt64) : own_b (own_K sv pl a < own_K sv pl b) = 1 := own_bT ((own_Kiff sv pl a b).mpr (Or.inl h))
theorem own_w2 {sv pl : Int32 → Int32} {a b : Int32} (h : ¬ (sv a).toInt64 < (sv b).toInt64) (h2 : ¬ (sv a).toInt64 = (sv b).toInt64) : own_b (own_K sv pl a < own_K sv pl b) = 0 := own_bF fun q => by
  rcases (own_Kiff sv pl a b).mp q with z | z
  · exact h z
  · exact h2 z.1
theorem own_w3 {sv pl : Int32 → Int32} {a b : Int32} (h2 : (sv a).toInt64 = (sv b).toInt64) (h3 : pl a < pl b) : own_b (own_K sv pl a < own_K sv pl b) = 1 := own_bT ((own_Kiff sv pl a b).mpr (Or.inr ⟨h2, h3⟩))
theorem own_w4 {sv pl : Int32 → Int32} {a b : Int32} (h : ¬ (sv a).toInt64 < (sv b).toInt64) (h3 : ¬ pl a < pl b) : own_b (own_K sv pl a < own_K sv pl b) = 0 := own_bF fun q => by
  rcases (own_Kiff sv pl a b).mp q with z | z
  · exact h z
  · exact h3 z.2
theorem own_oix {x : Int32} (h : own_ok x) : ¬ x < 0 ∧ x.toNatClampNeg = x.toNatClampNeg ∧ x.toNatClampNeg < 4 := by
  rcases h with rfl | rfl | rfl | rfl <;> decide
theorem own_ix {i n : Nat} (h : i < n) (hn : n ≤ 100) : ¬ i.toInt32 < 0 ∧ i.toInt32.toNatClampNeg = i ∧ i < n := by
  have e : i.toInt32.toInt = i := len_toInt (by omega)
  refine ⟨?_, ?_, h⟩
  · rw [Int32.lt_iff_toInt_lt, e, show (0 : Int32).toInt = 0 from by decide]; omega
  · simp only [Int32.toNatClampNeg, e]; omega
/-- the place i holds the document d and its score -/
def own_at (sv : Int32 → Int32) (fd fs : Nat → Value) (i : Nat) (d : Int32) : Prop := fd i = .int d ∧ fs i = .double (FP.i2d (sv d)) ∧ own_ok d
def own_P (pl : Int32 → Int32) (fp : Nat → Value) : Prop := ∀ d, own_ok d → fp d.toNatClampNeg = .int (pl d)
def own_U1 (K : Int32 → Int) (d0 x r0 r1 : Int32) : Prop := if K x < K d0 then r0 = x ∧ r1 = d0 else r0 = d0 ∧ r1 = x
def own_U2 (K : Int32 → Int) (d0 d1 x r0 r1 r2 : Int32) : Prop := if K x < K d0 then r0 = x ∧ r1 = d1 ∧ r2 = d0 else r0 = d0 ∧ r1 = d1 ∧ r2 = x
def own_U3 (K : Int32 → Int) (d0 d1 d2 x r0 r1 r2 r3 : Int32) : Prop := if K x < K d1 then (if K x < K d0 then r0 = x ∧ r1 = d0 ∧ r2 = d2 ∧ r3 = d1 else r0 = d0 ∧ r1 = x ∧ r2 = d2 ∧ r3 = d1) else r0 = d0 ∧ r1 = d1 ∧ r2 = d2 ∧ r3 = x
def own_D2 (K : Int32 → Int) (d1 x r0 r1 : Int32) : Prop := if K d1 < K x then r0 = d1 ∧ r1 = x else r0 = x ∧ r1 = d1
def own_D3 (K : Int32 → Int) (d1 d2 x r0 r1 r2 : Int32) : Prop := if K d2 < K d1 then (if K d2 < K x then r0 = d2 ∧ r1 = d1 ∧ r2 = x else r0 = x ∧ r1 = d1 ∧ r2 = d2) else (if K d1 < K x then r0 = d1 ∧ r1 = x ∧ r2 = d2 else r0 = x ∧ r1 = d1 ∧ r2 = d2)
def own_R3 (K : Int32 → Int) (d0 d1 d2 r0 r1 r2 : Int32) : Prop := ∃ t0 t1, own_D2 K d1 d2 t0 t1 ∧ r0 = t1 ∧ r1 = t0 ∧ r2 = d0
def own_R4 (K : Int32 → Int) (d0 d1 d2 d3 r0 r1 r2 r3 : Int32) : Prop := ∃ u0 u1 u2 t0 t1, own_D3 K d1 d2 d3 u0 u1 u2 ∧ own_D2 K u1 u2 t0 t1 ∧ r0 = t1 ∧ r1 = t0 ∧ r2 = u0 ∧ r3 = d0
theorem own_fin2 {K : Int32 → Int} {a0 a1 r0 r1 : Int32} (h : own_U1 K 0 1 a0 a1) (h0 : r0 = a1) (h1 : r1 = a0) : (¬ K r0 < K r1) ∧ ((r0 = 0 ∧ r1 = 1) ∨ (r0 = 1 ∧ r1 = 0)) := by
  subst h0 h1
  unfold own_U1 at h
  split at h
  · obtain ⟨rfl, rfl⟩ := h; exact ⟨by omega, Or.inl ⟨rfl, rfl⟩⟩
  · obtain ⟨rfl, rfl⟩ := h; exact ⟨by omega, Or.inr ⟨rfl, rfl⟩⟩
/-- three documents, each once -/
def own_p3 (r0 r1 r2 : Int32) : Prop := (r0 = 0 ∧ r1 = 1 ∧ r2 = 2) ∨ (r0 = 0 ∧ r1 = 2 ∧ r2 = 1) ∨ (r0 = 1 ∧ r1 = 0 ∧ r2 = 2) ∨ (r0 = 1 ∧ r1 = 2 ∧ r2 = 0) ∨ (r0 = 2 ∧ r1 = 0 ∧ r2 = 1) ∨ (r0 = 2 ∧ r1 = 1 ∧ r2 = 0)
theorem own_fin3 {K : Int32 → Int} {a0 a1 b0 b1 b2 r0 r1 r2 : Int32} (h1 : own_U1 K 0 1 a0 a1) (h2 : own_U2 K a0 a1 2 b0 b1 b2) (h3 : own_R3 K b0 b1 b2 r0 r1 r2) : (¬ K r0 < K r1) ∧ (¬ K r1 < K r2) ∧ own_p3 r0 r1 r2 := by
  obtain ⟨t0, t1, h3, rfl, rfl, rfl⟩ := h3
  unfold own_U1 at h1
  unfold own_U2 at h2
  unfold own_D2 at h3
  unfold own_p3
  split at h1 <;> obtain ⟨rfl, rfl⟩ := h1 <;> split at h2 <;> obtain ⟨rfl, rfl, rfl⟩ := h2 <;> split at h3 <;> obtain ⟨rfl, rfl⟩ := h3 <;> exact ⟨by omega, by omega, by simp⟩
def own_m4 (r0 r1 r2 r3 : Int32) : Prop := own_ok r0 ∧ own_ok r1 ∧ own_ok r2 ∧ own_ok r3 ∧ (((1 : Int32) <<< (r0 &&& 31)) ||| ((1 : Int32) <<< (r1 &&& 31)) ||| ((1 : Int32) <<< (r2 &&& 31)) ||| ((1 : Int32) <<< (r3 &&& 31))) = 15
theorem own_fin4 {K : Int32 → Int} {a0 a1 b0 b1 b2 c0 c1 c2 c3 r0 r1 r2 r3 : Int32} (h1 : own_U1 K 0 1 a0 a1) (h2 : own_U2 K a0 a1 2 b0 b1 b2) (h3 : own_U3 K b0 b1 b2 3 c0 c1 c2 c3) (h4 : own_R4 K c0 c1 c2 c3 r0 r1 r2 r3) : (¬ K r0 < K r1) ∧ (¬ K r1 < K r2) ∧ (¬ K r2 < K r3) ∧ own_m4 r0 r1 r2 r3 := by
  obtain ⟨u0, u1, u2, t0, t1, h4, h5, rfl, rfl, rfl, rfl⟩ := h4
  unfold own_U1 at h1
  unfold own_U2 at h2
  unfold own_U3 at h3
  unfold own_D3 at h4
  unfold own_D2 at h5
  split at h1 <;> obtain ⟨rfl, rfl⟩ := h1 <;> split at h2 <;> obtain ⟨rfl, rfl, rfl⟩ := h2 <;> split at h3 <;> (try split at h3) <;> obtain ⟨rfl, rfl, rfl, rfl⟩ := h3 <;> split at h4 <;> (try split at h4) <;> obtain ⟨rfl, rfl, rfl⟩ := h4 <;> split at h5 <;> obtain ⟨rfl, rfl⟩ := h5 <;> exact ⟨by omega, by omega, by omega, by unfold own_m4 own_ok; decide⟩
theorem own_sn {f : Nat → Value} {i j : Nat} {v : Value} (h : i ≠ j) : ownSet f j v i = f i := if_neg h
theorem own_g1 {r0 : Int32} (h : r0 = 0) : (¬ r0 < 0 ∧ r0 < 1) ∧ ((((1 : Int32) <<< (r0 &&& 31)) ||| (0 : Int32)) ||| (0 : Int32)) ||| (0 : Int32) = ((1 : Int32) <<< ((1 : Int32) &&& 31)) - (1 : Int32) := by subst h; decide
theorem own_g2 {r0 r1 : Int32} (h : (r0 = 0 ∧ r1 = 1) ∨ (r0 = 1 ∧ r1 = 0)) : (¬ r0 < 0 ∧ r0 < 2) ∧ (¬ r1 < 0 ∧ r1 < 2) ∧ ((((1 : Int32) <<< (r0 &&& 31)) ||| ((1 : Int32) <<< (r1 &&& 31))) ||| (0 : Int32)) ||| (0 : Int32) = ((1 : Int32) <<< ((2 : Int32) &&& 31)) - (1 : Int32) := by rcases h with ⟨rfl, rfl⟩ | ⟨rfl, rfl⟩ <;> decide
theorem own_g3 {r0 r1 r2 : Int32} (h : own_p3 r0 r1 r2) : (¬ r0 < 0 ∧ r0 < 3) ∧ (¬ r1 < 0 ∧ r1 < 3) ∧ (¬ r2 < 0 ∧ r2 < 3) ∧ ((((1 : Int32) <<< (r0 &&& 31)) ||| ((1 : Int32) <<< (r1 &&& 31))) ||| ((1 : Int32) <<< (r2 &&& 31))) ||| (0 : Int32) = ((1 : Int32) <<< ((3 : Int32) &&& 31)) - (1 : Int32) := by rcases h with ⟨rfl, rfl, rfl⟩ | ⟨rfl, rfl, rfl⟩ | ⟨rfl, rfl, rfl⟩ | ⟨rfl, rfl, rfl⟩ | ⟨rfl, rfl, rfl⟩ | ⟨rfl, rfl, rfl⟩ <;> decide
theorem own_okb {r : Int32} (h : own_ok r) : ¬ r < 0 ∧ r < 4 := by rcases h with rfl | rfl | rfl | rfl <;> decide
theorem own_g4 {r0 r1 r2 r3 : Int32} (h : own_m4 r0 r1 r2 r3) : (¬ r0 < 0 ∧ r0 < 4) ∧ (¬ r1 < 0 ∧ r1 < 4) ∧ (¬ r2 < 0 ∧ r2 < 4) ∧ (¬ r3 < 0 ∧ r3 < 4) ∧ ((((1 : Int32) <<< (r0 &&& 31)) ||| ((1 : Int32) <<< (r1 &&& 31))) ||| ((1 : Int32) <<< (r2 &&& 31))) ||| ((1 : Int32) <<< (r3 &&& 31)) = ((1 : Int32) <<< ((4 : Int32) &&& 31)) - (1 : Int32) := by
  obtain ⟨a, b, c, d, e⟩ := h
  exact ⟨own_okb a, own_okb b, own_okb c, own_okb d, e.trans (by decide)⟩
theorem own_ofNat (i : Nat) (h : i < 2 ^ 31) : i.toInt32.toInt = i := len_toInt h
theorem own_msk (x : Int32) (m : Int32) (k : Nat) (hk : k ≤ 31) (hm : m.toBitVec.toNat = 2 ^ k - 1) : ∃ n : Nat, n < 2 ^ k ∧ x &&& m = n.toInt32 := by
  have e := c_mask x m k hk hm
  have b1 := Int.emod_nonneg x.toInt (show ((2 ^ k : Nat) : Int) ≠ 0 from by have := Nat.two_pow_pos k; omega)
  have b2 := Int.emod_lt_of_pos x.toInt (show (0 : Int) < ((2 ^ k : Nat) : Int) from by have := Nat.two_pow_pos k; omega)
  have b3 : 2 ^ k ≤ 2 ^ 31 := Nat.pow_le_pow_right (by decide) hk
  refine ⟨(x.toInt % ((2 ^ k : Nat) : Int)).toNat, by omega, ?_⟩
  apply Int32.toInt_inj.mp
  rw [e, own_ofNat _ (by omega)]
  omega
theorem own_irem (x y : Int32) : x - (x / y) * y = x % y := Jvm.irem_eq_mod x y
theorem own_remN (z y : Nat) (hz : z < 2 ^ 31) (hy : 0 < y) (hy2 : y < 2 ^ 31) : z.toInt32 - (z.toInt32 / y.toInt32) * y.toInt32 = (z % y).toInt32 := by
  rw [own_irem]
  apply Int32.toInt_inj.mp
  have h0 := own_ofNat z hz
  have hz' := (c_irem z.toInt32 y.toInt32 y (own_ofNat y hy2)).1 (by omega)
  have := Nat.mod_lt z hy
  rw [hz', h0, own_ofNat _ (by omega)]
  omega
theorem own_n5 (a : Int32) : ∃ k : Int32, (a &&& (2147483647 : Int32)) - ((a &&& (2147483647 : Int32)) / (5 : Int32)) * (5 : Int32) = k ∧ (k = 0 ∨ k = 1 ∨ k = 2 ∨ k = 3 ∨ k = 4) := by
  obtain ⟨n, hn, e⟩ := own_msk a 2147483647 31 (by decide) (by decide)
  refine ⟨_, rfl, ?_⟩
  rw [e, show (5 : Int32) = (5 : Nat).toInt32 from rfl, own_remN n 5 (by omega) (by decide) (by decide)]
  have h := Nat.mod_lt n (show 0 < 5 by decide)
  rcases (show n % 5 = 0 ∨ n % 5 = 1 ∨ n % 5 = 2 ∨ n % 5 = 3 ∨ n % 5 = 4 by omega) with q | q | q | q | q <;> rw [q] <;> decide
def own_sel (x0 x1 x2 x3 d : Int32) : Int32 := if d = 0 then x0 else if d = 1 then x1 else if d = 2 then x2 else x3
theorem own_selP {x0 x1 x2 x3 : Int32} {fp : Nat → Value} (h0 : fp 0 = .int x0) (h1 : fp 1 = .int x1) (h2 : fp 2 = .int x2) (h3 : fp 3 = .int x3) : own_P (own_sel x0 x1 x2 x3) fp := by
  intro d hd
  rcases hd with rfl | rfl | rfl | rfl
  · rw [show own_sel x0 x1 x2 x3 0 = x0 from rfl]; exact h0
  · rw [show own_sel x0 x1 x2 x3 1 = x1 from rfl]; exact h1
  · rw [show own_sel x0 x1 x2 x3 2 = x2 from rfl]; exact h2
  · rw [show own_sel x0 x1 x2 x3 3 = x3 from rfl]; exact h3
theorem own_selS {x0 x1 x2 x3 : Int32} {fp : Nat → Value} (h0 : fp 0 = .double (FP.i2d x0)) (h1 : fp 1 = .double (FP.i2d x1)) (h2 : fp 2 = .double (FP.i2d x2)) (h3 : fp 3 = .double (FP.i2d x3)) : ∀ d, own_ok d → fp d.toNatClampNeg = .double (FP.i2d (own_sel x0 x1 x2 x3 d)) := by
  intro d hd
  rcases hd with rfl | rfl | rfl | rfl
  · rw [show own_sel x0 x1 x2 x3 0 = x0 from rfl]; exact h0
  · rw [show own_sel x0 x1 x2 x3 1 = x1 from rfl]; exact h1
  · rw [show own_sel x0 x1 x2 x3 2 = x2 from rfl]; exact h2
  · rw [show own_sel x0 x1 x2 x3 3 = x3 from rfl]; exact h3
theorem own_sh {f : Nat → Value} {i : Nat} {v : Value} : ownSet f i v i = v := if_pos rfl
def own_S (Z : State) (h : Heap) (ob sa da pa : Addr) (sz : Int32) (fd fs fp : Nat → Value) : Prop := Exa Z h ob "com/example/etsinta/etsinta/search/Best" ∧ Fld Z h ob "com/example/etsinta/etsinta/search/Best" "scores" "[D" (.ref sa) ∧ Fld Z h ob "com/example/etsinta/etsinta/search/Best" "documents" "[I" (.ref da) ∧ Fld Z h ob "com/example/etsinta/etsinta/search/Best" "depth" "I" (.int 4) ∧ Fld Z h ob "com/example/etsinta/etsinta/search/Best" "docnoPlaces" "[I" (.ref pa) ∧ Fld Z h ob "com/example/etsinta/etsinta/search/Best" "size" "I" (.int sz) ∧ OwnA Z h da .int 16 fd ∧ OwnA Z h sa .double 16 fs ∧ OwnA Z h pa .int 4 fp
def own_N (n0 : Nat) (ob sa da pa : Addr) : Prop := n0 ≤ ob ∧ n0 ≤ sa ∧ n0 ≤ da ∧ ob ≠ sa ∧ ob ≠ da ∧ ob ≠ pa ∧ sa ≠ da ∧ sa ≠ pa ∧ da ≠ pa
theorem d14_0 : decode prog_26_method_8_code 0 = .ok (.dload_n 2, 1) := by decide +kernel
theorem d14_1 : decode prog_26_method_8_code 1 = .ok (.dload 5, 2) := by decide +kernel
theorem d14_3 : decode prog_26_method_8_code 3 = .ok (.dcmp .g, 1) := by decide +kernel
theorem d14_4 : decode prog_26_method_8_code 4 = .ok (.ifCond .lt 26, 3) := by decide +kernel
theorem d14_7 : decode prog_26_method_8_code 7 = .ok (.dload_n 2, 1) := by decide +kernel
theorem d14_8 : decode prog_26_method_8_code 8 = .ok (.dload 5, 2) := by decide +kernel
theorem d14_10 : decode prog_26_method_8_code 10 = .ok (.dcmp .l, 1) := by decide +kernel
theorem d14_11 : decode prog_26_method_8_code 11 = .ok (.ifCond .ne 23, 3) := by decide +kernel
theorem d14_14 : decode prog_26_method_8_code 14 = .ok (.aload_n 0, 1) := by decide +kernel
theorem d14_15 : decode prog_26_method_8_code 15 = .ok (.getfield 21, 3) := by decide +kernel
theorem d14_18 : decode prog_26_method_8_code 18 = .ok (.iload_n 1, 1) := by decide +kernel
theorem d14_19 : decode prog_26_method_8_code 19 = .ok (.iaload, 1) := by decide +kernel
theorem d14_20 : decode prog_26_method_8_code 20 = .ok (.aload_n 0, 1) := by decide +kernel
theorem d14_21 : decode prog_26_method_8_code 21 = .ok (.getfield 21, 3) := by decide +kernel
theorem d14_24 : decode prog_26_method_8_code 24 = .ok (.iload 4, 2) := by decide +kernel
theorem d14_26 : decode prog_26_method_8_code 26 = .ok (.iaload, 1) := by decide +kernel
theorem d14_27 : decode prog_26_method_8_code 27 = .ok (.if_icmp .ge 7, 3) := by decide +kernel
theorem d14_30 : decode prog_26_method_8_code 30 = .ok (.iconst 1, 1) := by decide +kernel
theorem d14_31 : decode prog_26_method_8_code 31 = .ok (.goto 4, 3) := by decide +kernel
theorem d14_34 : decode prog_26_method_8_code 34 = .ok (.iconst 0, 1) := by decide +kernel
theorem d14_35 : decode prog_26_method_8_code 35 = .ok (.ireturn, 1) := by decide +kernel
theorem pn_0 : plainName "com/example/etsinta/etsinta/search/Best" = true := by first | (simp [plainName, overriddenIn]; done) | decide +kernel
theorem ef_14 (m : MethodId) (x0 : Addr) (x1 : Int32) (x2 : UInt64) (x3 : Int32) (x4 : UInt64) : entryFrame m #[(.ref x0), (.int x1), (.double x2), (.int x3), (.double x4)] 7 = mkF m 0 #[.val (.ref x0), .val (.int x1), .val (.double x2), .second, .val (.int x3), .val (.double x4), .second] [] := by first | (simp [entryFrame, mkF, argsToLocals, Value.category]; done) | rfl
def Q14 (Z : State) (sv pl : Int32 → Int32) (ob sa da pa : Addr) (sz : Int32) (fd fs fp : Nat → Value) (a b : Int32) (h0 : Heap) (n0 : Nat) (v : Option Value) (h : Heap) (L : List Loc) : Prop := v = some (.int (own_b (own_K sv pl a < own_K sv pl b))) ∧ Fr n0 L ∧ h = h0
set_option maxRecDepth 65536 in
set_option maxHeartbeats 40000000 in
theorem rm14 (l : Launch) (Z : State) (a0 : Array Value) (hw : ∀ d ∈ tables_1, d.before a0 Z = true) (ws : List Jvm.Cond) (sv pl : Int32 → Int32) (ob sa da pa : Addr) (sz : Int32) (fd fs fp : Nat → Value) (a b : Int32) (h0 : Heap) (n0 : Nat) (Z0 : n0 ≤ h0.size) (Sb : own_S Z h0 ob sa da pa sz fd fs fp) (hP : own_P pl fp) (k_a : own_ok a) (k_b : own_ok b) :
    MetFree l (⟨"com/example/etsinta/etsinta/search/Best", "worse", "(IDID)Z"⟩ : MethodName) (head1 (Jvm.Cond.code (⟨"com/example/etsinta/etsinta/search/Best", "worse", "(IDID)Z"⟩ : MethodName) prog_26_method_8_code 7 (some .boolean) :: ws) ({ frames := 0, cells := 0, slots := 0, locals := 0 } : Room)) (fun aa_ U => aa_ = #[(.ref ob), (.int a), (.double (FP.i2d (sv a))), (.int b), (.double (FP.i2d (sv b)))] ∧ Z.Warmed39 U.vm ∧ U.heap = h0) (fun _ _ _ _ _ => True) (fun _ U o U' => ∃ v L, o = .returned v ∧ Q14 Z sv pl ob sa da pa sz fd fs fp a b h0 n0 v U'.heap L ∧ FrameEnd U o U' L ({ frames := 0, cells := 0, slots := 0, locals := 0 } : Room).cells ({ frames := 0, cells := 0, slots := 0, locals := 0 } : Room).slots) := by
  refine own_met (Q := fun v h L => Q14 Z sv pl ob sa da pa sz fd fs fp a b h0 n0 v h L) (plainFor_of_name pn_0) ?_
  intro p e s m below meth c s₁ hx hby hml hret hlk hown hnm hZ X0 e0
  have N0 := Fr.nil n0
  rw [ef_14 m ob a (FP.i2d (sv a)) b (FP.i2d (sv b))]
  show OwnG p e below s _ _ _ (s₁.setTop (mkF m 0 #[.val (.ref ob), .val (.int a), .val (.double (FP.i2d (sv a))), .second, .val (.int b), .val (.double (FP.i2d (sv b))), .second] []))
  refine own_by (fun _ K => XS.dloadN X0.here hx rfl (hb hby d14_0) rfl K) ?_
  show OwnG p e below s _ _ _ (s₁.setTop (mkF m 1 _ [(.double (FP.i2d (sv a)))]))
  refine own_by (fun _ K => XS.dload X0.here hx rfl (hb hby d14_1) rfl K) ?_
  show OwnG p e below s _ _ _ (s₁.setTop (mkF m 3 _ [(.double (FP.i2d (sv b))), (.double (FP.i2d (sv a)))]))
  refine own_by (fun _ K => XS.dcmpS X0.here hx rfl (hb hby d14_3) rfl rfl K) ?_
  show OwnG p e below s _ _ _ (s₁.setTop (mkF m 4 _ [(.int (cmpValue (FP.dcmp (FP.i2d (sv a)) (FP.i2d (sv b))) .g))]))
  rw [own_dc]
  show OwnG p e below s _ _ _ (s₁.setTop (mkF m 4 #[.val (.ref ob), .val (.int a), .val (.double (FP.i2d (sv a))), .second, .val (.int b), .val (.double (FP.i2d (sv b))), .second] [(.int (lcmpW (sv a).toInt64 (sv b).toInt64))]))
  by_cases hb4_1 : (sv a).toInt64 < (sv b).toInt64
  · refine own_by (fun _ K => XS.ifYes X0.here hx rfl (pc0 := 4) (pc' := 30) rfl (hb hby d14_4) rfl ((if0 _ _).trans (tlt ((lw_lt _ _).mpr hb4_1)).1) (by decide) (by decide) K) ?_
    show OwnG p e below s _ _ _ (s₁.setTop (mkF m 30 #[.val (.ref ob), .val (.int a), .val (.double (FP.i2d (sv a))), .second, .val (.int b), .val (.double (FP.i2d (sv b))), .second] []))
    refine own_by (fun _ K => XS.iconst X0.here hx rfl (hb hby d14_30) K) ?_
    show OwnG p e below s _ _ _ (s₁.setTop (mkF m 31 _ [(.int 1)]))
    refine own_by (fun _ K => XS.goto X0.here hx rfl (pc0 := 31) (pc' := 35) rfl (hb hby d14_31) (by decide) (by decide) K) ?_
    show OwnG p e below s _ _ _ (s₁.setTop (mkF m 35 _ [(.int 1)]))
    exact own_outN X0 hx hret (by simp) hlk (hb hby d14_35) rfl (⟨by rw [own_w1 hb4_1]; rfl, N0, e0⟩) (by decide) (by decide)
  · refine own_by (fun _ K => XS.ifNo X0.here hx rfl (hb hby d14_4) rfl ((if0 _ _).trans (flt (fun q => hb4_1 ((lw_lt _ _).mp q))).1) K) ?_
    show OwnG p e below s _ _ _ (s₁.setTop (mkF m 7 #[.val (.ref ob), .val (.int a), .val (.double (FP.i2d (sv a))), .second, .val (.int b), .val (.double (FP.i2d (sv b))), .second] []))
    refine own_by (fun _ K => XS.dloadN X0.here hx rfl (hb hby d14_7) rfl K) ?_
    show OwnG p e below s _ _ _ (s₁.setTop (mkF m 8 _ [(.double (FP.i2d (sv a)))]))
    refine own_by (fun _ K => XS.dload X0.here hx rfl (hb hby d14_8) rfl K) ?_
    show OwnG p e below s _ _ _ (s₁.setTop (mkF m 10 _ [(.double (FP.i2d (sv b))), (.double (FP.i2d (sv a)))]))
    refine own_by (fun _ K => XS.dcmpS X0.here hx rfl (hb hby d14_10) rfl rfl K) ?_
    show OwnG p e below s _ _ _ (s₁.setTop (mkF m 11 _ [(.int (cmpValue (FP.dcmp (FP.i2d (sv a)) (FP.i2d (sv b))) .l))]))
    rw [own_dc]
    show OwnG p e below s _ _ _ (s₁.setTop (mkF m 11 #[.val (.ref ob), .val (.int a), .val (.double (FP.i2d (sv a))), .second, .val (.int b), .val (.double (FP.i2d (sv b))), .second] [(.int (lcmpW (sv a).toInt64 (sv b).toInt64))]))
    by_cases hb11_2 : (sv a).toInt64 = (sv b).toInt64
    · refine own_by (fun _ K => XS.ifNo X0.here hx rfl (hb hby d14_11) rfl ((if0 _ _).trans (teq ((lw_eq _ _).mpr hb11_2)).2) K) ?_
      show OwnG p e below s _ _ _ (s₁.setTop (mkF m 14 #[.val (.ref ob), .val (.int a), .val (.double (FP.i2d (sv a))), .second, .val (.int b), .val (.double (FP.i2d (sv b))), .second] []))
      refine own_by (fun _ K => XS.aloadN X0.here hx rfl (hb hby d14_14) rfl rfl K) ?_
      show OwnG p e below s _ _ _ (s₁.setTop (mkF m 15 _ [(.ref ob)]))
      obtain ⟨T3, X3, e3, st3⟩ := getF X0 hx hZ hown (host := "") (Or.inl (own_w hw 18 rfl)) Via.refl e0 Sb.2.2.2.2.1 (g := (mkF m 15 #[.val (.ref ob), .val (.int a), .val (.double (FP.i2d (sv a))), .second, .val (.int b), .val (.double (FP.i2d (sv b))), .second] [(.ref ob)])) rfl rfl (hb hby d14_15)
      refine own_by (fun _ K => st3 _ K) ?_
      show OwnG p e below s _ _ _ (T3.setTop (mkF m 18 _ [(.ref pa)]))
      refine own_by (fun _ K => XS.iloadN X3.here hx rfl (hb hby d14_18) rfl K) ?_
      show OwnG p e below s _ _ _ (T3.setTop (mkF m 19 _ [(.int a), (.ref pa)]))
      refine own_by (fun _ K => own_ldI X3 hx hZ e3 Sb.2.2.2.2.2.2.2.2 (j := a) (i := a.toNatClampNeg) (own_oix k_a) (v := (.int (pl a))) (hP a k_a) (g := (mkF m 19 #[.val (.ref ob), .val (.int a), .val (.double (FP.i2d (sv a))), .second, .val (.int b), .val (.double (FP.i2d (sv b))), .second] [(.int a), (.ref pa)])) rfl rfl (hb hby d14_19) _ K) ?_
      show OwnG p e below s _ _ _ (T3.setTop (mkF m 20 _ [(.int (pl a))]))
      refine own_by (fun _ K => XS.aloadN X3.here hx rfl (hb hby d14_20) rfl rfl K) ?_
      show OwnG p e below s _ _ _ (T3.setTop (mkF m 21 _ [(.ref ob), (.int (pl a))]))
      obtain ⟨T4, X4, e4, st4⟩ := getF X3 hx hZ hown (host := "") (Or.inl (own_w hw 18 rfl)) Via.refl e3 Sb.2.2.2.2.1 (g := (mkF m 21 #[.val (.ref ob), .val (.int a), .val (.double (FP.i2d (sv a))), .second, .val (.int b), .val (.double (FP.i2d (sv b))), .second] [(.ref ob), (.int (pl a))])) rfl rfl (hb hby d14_21)
      refine own_by (fun _ K => st4 _ K) ?_
      show OwnG p e below s _ _ _ (T4.setTop (mkF m 24 _ [(.ref pa), (.int (pl a))]))
      refine own_by (fun _ K => XS.iload X4.here hx rfl (hb hby d14_24) rfl K) ?_
      show OwnG p e below s _ _ _ (T4.setTop (mkF m 26 _ [(.int b), (.ref pa), (.int (pl a))]))
      refine own_by (fun _ K => own_ldI X4 hx hZ e4 Sb.2.2.2.2.2.2.2.2 (j := b) (i := b.toNatClampNeg) (own_oix k_b) (v := (.int (pl b))) (hP b k_b) (g := (mkF m 26 #[.val (.ref ob), .val (.int a), .val (.double (FP.i2d (sv a))), .second, .val (.int b), .val (.double (FP.i2d (sv b))), .second] [(.int b), (.ref pa), (.int (pl a))])) rfl rfl (hb hby d14_26) _ K) ?_
      show OwnG p e below s _ _ _ (T4.setTop (mkF m 27 _ [(.int (pl b)), (.int (pl a))]))
      by_cases hb27_5 : (pl a) < (pl b)
      · refine own_by (fun _ K => XS.icmpNo X4.here hx rfl (hb hby d14_27) rfl (tlt hb27_5).2.1 K) ?_
        show OwnG p e below s _ _ _ (T4.setTop (mkF m 30 #[.val (.ref ob), .val (.int a), .val (.double (FP.i2d (sv a))), .second, .val (.int b), .val (.double (FP.i2d (sv b))), .second] []))
        refine own_by (fun _ K => XS.iconst X4.here hx rfl (hb hby d14_30) K) ?_
        show OwnG p e below s _ _ _ (T4.setTop (mkF m 31 _ [(.int 1)]))
        refine own_by (fun _ K => XS.goto X4.here hx rfl (pc0 := 31) (pc' := 35) rfl (hb hby d14_31) (by decide) (by decide) K) ?_
        show OwnG p e below s _ _ _ (T4.setTop (mkF m 35 _ [(.int 1)]))
        exact own_outN X4 hx hret (by simp) hlk (hb hby d14_35) rfl (⟨by rw [own_w3 hb11_2 hb27_5]; rfl, N0, e4⟩) (by decide) (by decide)
      · refine own_by (fun _ K => XS.icmpYes X4.here hx rfl (pc0 := 27) (pc' := 34) rfl (hb hby d14_27) rfl (flt hb27_5).2.1 (by decide) (by decide) K) ?_
        show OwnG p e below s _ _ _ (T4.setTop (mkF m 34 #[.val (.ref ob), .val (.int a), .val (.double (FP.i2d (sv a))), .second, .val (.int b), .val (.double (FP.i2d (sv b))), .second] []))
        refine own_by (fun _ K => XS.iconst X4.here hx rfl (hb hby d14_34) K) ?_
        show OwnG p e below s _ _ _ (T4.setTop (mkF m 35 _ [(.int 0)]))
        exact own_outN X4 hx hret (by simp) hlk (hb hby d14_35) rfl (⟨by rw [own_w4 hb4_1 hb27_5]; rfl, N0, e4⟩) (by decide) (by decide)
    · refine own_by (fun _ K => XS.ifYes X0.here hx rfl (pc0 := 11) (pc' := 34) rfl (hb hby d14_11) rfl ((if0 _ _).trans (feq (fun q => hb11_2 ((lw_eq _ _).mp q))).2) (by decide) (by decide) K) ?_
      show OwnG p e below s _ _ _ (s₁.setTop (mkF m 34 #[.val (.ref ob), .val (.int a), .val (.double (FP.i2d (sv a))), .second, .val (.int b), .val (.double (FP.i2d (sv b))), .second] []))
      refine own_by (fun _ K => XS.iconst X0.here hx rfl (hb hby d14_34) K) ?_
      show OwnG p e below s _ _ _ (s₁.setTop (mkF m 35 _ [(.int 0)]))
      exact own_outN X0 hx hret (by simp) hlk (hb hby d14_35) rfl (⟨by rw [own_w2 hb4_1 hb11_2]; rfl, N0, e0⟩) (by decide) (by decide)
theorem d16_0 : decode method_2_code 0 = .ok (.dload_n 2, 1) := by decide +kernel
theorem d16_1 : decode method_2_code 1 = .ok (.dload 5, 2) := by decide +kernel
theorem d16_3 : decode method_2_code 3 = .ok (.dcmp .g, 1) := by decide +kernel
theorem d16_4 : decode method_2_code 4 = .ok (.ifCond .lt 20, 3) := by decide +kernel
theorem d16_7 : decode method_2_code 7 = .ok (.dload_n 2, 1) := by decide +kernel
theorem d16_8 : decode method_2_code 8 = .ok (.dload 5, 2) := by decide +kernel
theorem d16_10 : decode method_2_code 10 = .ok (.dcmp .l, 1) := by decide +kernel
theorem d16_11 : decode method_2_code 11 = .ok (.ifCond .ne 17, 3) := by decide +kernel
theorem d16_14 : decode method_2_code 14 = .ok (.aload_n 0, 1) := by decide +kernel
theorem d16_15 : decode method_2_code 15 = .ok (.iload_n 1, 1) := by decide +kernel
theorem d16_16 : decode method_2_code 16 = .ok (.iaload, 1) := by decide +kernel
theorem d16_17 : decode method_2_code 17 = .ok (.aload_n 0, 1) := by decide +kernel
theorem d16_18 : decode method_2_code 18 = .ok (.iload 4, 2) := by decide +kernel
theorem d16_20 : decode method_2_code 20 = .ok (.iaload, 1) := by decide +kernel
theorem d16_21 : decode method_2_code 21 = .ok (.if_icmp .ge 7, 3) := by decide +kernel
theorem d16_24 : decode method_2_code 24 = .ok (.iconst 1, 1) := by decide +kernel
theorem d16_25 : decode method_2_code 25 = .ok (.goto 4, 3) := by decide +kernel
theorem d16_28 : decode method_2_code 28 = .ok (.iconst 0, 1) := by decide +kernel
theorem d16_29 : decode method_2_code 29 = .ok (.ireturn, 1) := by decide +kernel
theorem pn_1 : plainName "com/example/etsinta/etsinta/search/BestRankPinLaw" = true := by first | (simp [plainName, overriddenIn]; done) | decide +kernel
theorem ef_16 (m : MethodId) (x0 : Addr) (x1 : Int32) (x2 : UInt64) (x3 : Int32) (x4 : UInt64) : entryFrame m #[(.ref x0), (.int x1), (.double x2), (.int x3), (.double x4)] 7 = mkF m 0 #[.val (.ref x0), .val (.int x1), .val (.double x2), .second, .val (.int x3), .val (.double x4), .second] [] := by first | (simp [entryFrame, mkF, argsToLocals, Value.category]; done) | rfl
def Q16 (Z : State) (sv pl : Int32 → Int32) (pa : Addr) (fp : Nat → Value) (a b : Int32) (h0 : Heap) (n0 : Nat) (v : Option Value) (h : Heap) (L : List Loc) : Prop := v = some (.int (own_b (own_K sv pl a < own_K sv pl b))) ∧ Fr n0 L ∧ h = h0
set_option maxRecDepth 65536 in
set_option maxHeartbeats 40000000 in
theorem rm16 (l : Launch) (Z : State) (a0 : Array Value) (hw : ∀ d ∈ tables_1, d.before a0 Z = true) (ws : List Jvm.Cond) (sv pl : Int32 → Int32) (pa : Addr) (fp : Nat → Value) (a b : Int32) (h0 : Heap) (n0 : Nat) (Z0 : n0 ≤ h0.size) (Ap : OwnA Z h0 pa .int 4 fp) (hP : own_P pl fp) (k_a : own_ok a) (k_b : own_ok b) :
    MetFree l (⟨"com/example/etsinta/etsinta/search/BestRankPinLaw", "worse", "([IIDID)Z"⟩ : MethodName) (head1 (Jvm.Cond.code (⟨"com/example/etsinta/etsinta/search/BestRankPinLaw", "worse", "([IIDID)Z"⟩ : MethodName) method_2_code 7 (some .boolean) :: ws) ({ frames := 0, cells := 0, slots := 0, locals := 0 } : Room)) (fun aa_ U => aa_ = #[(.ref pa), (.int a), (.double (FP.i2d (sv a))), (.int b), (.double (FP.i2d (sv b)))] ∧ Z.Warmed39 U.vm ∧ U.heap = h0) (fun _ _ _ _ _ => True) (fun _ U o U' => ∃ v L, o = .returned v ∧ Q16 Z sv pl pa fp a b h0 n0 v U'.heap L ∧ FrameEnd U o U' L ({ frames := 0, cells := 0, slots := 0, locals := 0 } : Room).cells ({ frames := 0, cells := 0, slots := 0, locals := 0 } : Room).slots) := by
  refine own_met (Q := fun v h L => Q16 Z sv pl pa fp a b h0 n0 v h L) (plainFor_of_name pn_1) ?_
  intro p e s m below meth c s₁ hx hby hml hret hlk hown hnm hZ X0 e0
  have N0 := Fr.nil n0
  rw [ef_16 m pa a (FP.i2d (sv a)) b (FP.i2d (sv b))]
  show OwnG p e below s _ _ _ (s₁.setTop (mkF m 0 #[.val (.ref pa), .val (.int a), .val (.double (FP.i2d (sv a))), .second, .val (.int b), .val (.double (FP.i2d (sv b))), .second] []))
  refine own_by (fun _ K => XS.dloadN X0.here hx rfl (hb hby d16_0) rfl K) ?_
  show OwnG p e below s _ _ _ (s₁.setTop (mkF m 1 _ [(.double (FP.i2d (sv a)))]))
  refine own_by (fun _ K => XS.dload X0.here hx rfl (hb hby d16_1) rfl K) ?_
  show OwnG p e below s _ _ _ (s₁.setTop (mkF m 3 _ [(.double (FP.i2d (sv b))), (.double (FP.i2d (sv a)))]))
  refine own_by (fun _ K => XS.dcmpS X0.here hx rfl (hb hby d16_3) rfl rfl K) ?_
  show OwnG p e below s _ _ _ (s₁.setTop (mkF m 4 _ [(.int (cmpValue (FP.dcmp (FP.i2d (sv a)) (FP.i2d (sv b))) .g))]))
  rw [own_dc]
  show OwnG p e below s _ _ _ (s₁.setTop (mkF m 4 #[.val (.ref pa), .val (.int a), .val (.double (FP.i2d (sv a))), .second, .val (.int b), .val (.double (FP.i2d (sv b))), .second] [(.int (lcmpW (sv a).toInt64 (sv b).toInt64))]))
  by_cases hb4_1 : (sv a).toInt64 < (sv b).toInt64
  · refine own_by (fun _ K => XS.ifYes X0.here hx rfl (pc0 := 4) (pc' := 24) rfl (hb hby d16_4) rfl ((if0 _ _).trans (tlt ((lw_lt _ _).mpr hb4_1)).1) (by decide) (by decide) K) ?_
    show OwnG p e below s _ _ _ (s₁.setTop (mkF m 24 #[.val (.ref pa), .val (.int a), .val (.double (FP.i2d (sv a))), .second, .val (.int b), .val (.double (FP.i2d (sv b))), .second] []))
    refine own_by (fun _ K => XS.iconst X0.here hx rfl (hb hby d16_24) K) ?_
    show OwnG p e below s _ _ _ (s₁.setTop (mkF m 25 _ [(.int 1)]))
    refine own_by (fun _ K => XS.goto X0.here hx rfl (pc0 := 25) (pc' := 29) rfl (hb hby d16_25) (by decide) (by decide) K) ?_
    show OwnG p e below s _ _ _ (s₁.setTop (mkF m 29 _ [(.int 1)]))
    exact own_outN X0 hx hret (by simp) hlk (hb hby d16_29) rfl (⟨by rw [own_w1 hb4_1]; rfl, N0, e0⟩) (by decide) (by decide)
  · refine own_by (fun _ K => XS.ifNo X0.here hx rfl (hb hby d16_4) rfl ((if0 _ _).trans (flt (fun q => hb4_1 ((lw_lt _ _).mp q))).1) K) ?_
    show OwnG p e below s _ _ _ (s₁.setTop (mkF m 7 #[.val (.ref pa), .val (.int a), .val (.double (FP.i2d (sv a))), .second, .val (.int b), .val (.double (FP.i2d (sv b))), .second] []))
    refine own_by (fun _ K => XS.dloadN X0.here hx rfl (hb hby d16_7) rfl K) ?_
    show OwnG p e below s _ _ _ (s₁.setTop (mkF m 8 _ [(.double (FP.i2d (sv a)))]))
    refine own_by (fun _ K => XS.dload X0.here hx rfl (hb hby d16_8) rfl K) ?_
    show OwnG p e below s _ _ _ (s₁.setTop (mkF m 10 _ [(.double (FP.i2d (sv b))), (.double (FP.i2d (sv a)))]))
    refine own_by (fun _ K => XS.dcmpS X0.here hx rfl (hb hby d16_10) rfl rfl K) ?_
    show OwnG p e below s _ _ _ (s₁.setTop (mkF m 11 _ [(.int (cmpValue (FP.dcmp (FP.i2d (sv a)) (FP.i2d (sv b))) .l))]))
    rw [own_dc]
    show OwnG p e below s _ _ _ (s₁.setTop (mkF m 11 #[.val (.ref pa), .val (.int a), .val (.double (FP.i2d (sv a))), .second, .val (.int b), .val (.double (FP.i2d (sv b))), .second] [(.int (lcmpW (sv a).toInt64 (sv b).toInt64))]))
    by_cases hb11_2 : (sv a).toInt64 = (sv b).toInt64
    · refine own_by (fun _ K => XS.ifNo X0.here hx rfl (hb hby d16_11) rfl ((if0 _ _).trans (teq ((lw_eq _ _).mpr hb11_2)).2) K) ?_
      show OwnG p e below s _ _ _ (s₁.setTop (mkF m 14 #[.val (.ref pa), .val (.int a), .val (.double (FP.i2d (sv a))), .second, .val (.int b), .val (.double (FP.i2d (sv b))), .second] []))
      refine own_by (fun _ K => XS.aloadN X0.here hx rfl (hb hby d16_14) rfl rfl K) ?_
      show OwnG p e below s _ _ _ (s₁.setTop (mkF m 15 _ [(.ref pa)]))
      refine own_by (fun _ K => XS.iloadN X0.here hx rfl (hb hby d16_15) rfl K) ?_
      show OwnG p e below s _ _ _ (s₁.setTop (mkF m 16 _ [(.int a), (.ref pa)]))
      refine own_by (fun _ K => own_ldI X0 hx hZ e0 Ap (j := a) (i := a.toNatClampNeg) (own_oix k_a) (v := (.int (pl a))) (hP a k_a) (g := (mkF m 16 #[.val (.ref pa), .val (.int a), .val (.double (FP.i2d (sv a))), .second, .val (.int b), .val (.double (FP.i2d (sv b))), .second] [(.int a), (.ref pa)])) rfl rfl (hb hby d16_16) _ K) ?_
      show OwnG p e below s _ _ _ (s₁.setTop (mkF m 17 _ [(.int (pl a))]))
      refine own_by (fun _ K => XS.aloadN X0.here hx rfl (hb hby d16_17) rfl rfl K) ?_
      show OwnG p e below s _ _ _ (s₁.setTop (mkF m 18 _ [(.ref pa), (.int (pl a))]))
      refine own_by (fun _ K => XS.iload X0.here hx rfl (hb hby d16_18) rfl K) ?_
      show OwnG p e below s _ _ _ (s₁.setTop (mkF m 20 _ [(.int b), (.ref pa), (.int (pl a))]))
      refine own_by (fun _ K => own_ldI X0 hx hZ e0 Ap (j := b) (i := b.toNatClampNeg) (own_oix k_b) (v := (.int (pl b))) (hP b k_b) (g := (mkF m 20 #[.val (.ref pa), .val (.int a), .val (.double (FP.i2d (sv a))), .second, .val (.int b), .val (.double (FP.i2d (sv b))), .second] [(.int b), (.ref pa), (.int (pl a))])) rfl rfl (hb hby d16_20) _ K) ?_
      show OwnG p e below s _ _ _ (s₁.setTop (mkF m 21 _ [(.int (pl b)), (.int (pl a))]))
      by_cases hb21_3 : (pl a) < (pl b)
      · refine own_by (fun _ K => XS.icmpNo X0.here hx rfl (hb hby d16_21) rfl (tlt hb21_3).2.1 K) ?_
        show OwnG p e below s _ _ _ (s₁.setTop (mkF m 24 #[.val (.ref pa), .val (.int a), .val (.double (FP.i2d (sv a))), .second, .val (.int b), .val (.double (FP.i2d (sv b))), .second] []))
        refine own_by (fun _ K => XS.iconst X0.here hx rfl (hb hby d16_24) K) ?_
        show OwnG p e below s _ _ _ (s₁.setTop (mkF m 25 _ [(.int 1)]))
        refine own_by (fun _ K => XS.goto X0.here hx rfl (pc0 := 25) (pc' := 29) rfl (hb hby d16_25) (by decide) (by decide) K) ?_
        show OwnG p e below s _ _ _ (s₁.setTop (mkF m 29 _ [(.int 1)]))
        exact own_outN X0 hx hret (by simp) hlk (hb hby d16_29) rfl (⟨by rw [own_w3 hb11_2 hb21_3]; rfl, N0, e0⟩) (by decide) (by decide)
      · refine own_by (fun _ K => XS.icmpYes X0.here hx rfl (pc0 := 21) (pc' := 28) rfl (hb hby d16_21) rfl (flt hb21_3).2.1 (by decide) (by decide) K) ?_
        show OwnG p e below s _ _ _ (s₁.setTop (mkF m 28 #[.val (.ref pa), .val (.int a), .val (.double (FP.i2d (sv a))), .second, .val (.int b), .val (.double (FP.i2d (sv b))), .second] []))
        refine own_by (fun _ K => XS.iconst X0.here hx rfl (hb hby d16_28) K) ?_
        show OwnG p e below s _ _ _ (s₁.setTop (mkF m 29 _ [(.int 0)]))
        exact own_outN X0 hx hret (by simp) hlk (hb hby d16_29) rfl (⟨by rw [own_w4 hb4_1 hb21_3]; rfl, N0, e0⟩) (by decide) (by decide)
    · refine own_by (fun _ K => XS.ifYes X0.here hx rfl (pc0 := 11) (pc' := 28) rfl (hb hby d16_11) rfl ((if0 _ _).trans (feq (fun q => hb11_2 ((lw_eq _ _).mp q))).2) (by decide) (by decide) K) ?_
      show OwnG p e below s _ _ _ (s₁.setTop (mkF m 28 #[.val (.ref pa), .val (.int a), .val (.double (FP.i2d (sv a))), .second, .val (.int b), .val (.double (FP.i2d (sv b))), .second] []))
      refine own_by (fun _ K => XS.iconst X0.here hx rfl (hb hby d16_28) K) ?_
      show OwnG p e below s _ _ _ (s₁.setTop (mkF m 29 _ [(.int 0)]))
      exact own_outN X0 hx hret (by simp) hlk (hb hby d16_29) rfl (⟨by rw [own_w2 hb4_1 hb11_2]; rfl, N0, e0⟩) (by decide) (by decide)
theorem d9_0 : decode prog_26_method_9_code 0 = .ok (.iload_n 1, 1) := by decide +kernel
theorem d9_1 : decode prog_26_method_9_code 1 = .ok (.istore 5, 2) := by decide +kernel
theorem d9_3 : decode prog_26_method_9_code 3 = .ok (.iload 5, 2) := by decide +kernel
theorem d9_5 : decode prog_26_method_9_code 5 = .ok (.ifCond .le 77, 3) := by decide +kernel
theorem d9_8 : decode prog_26_method_9_code 8 = .ok (.aload_n 0, 1) := by decide +kernel
theorem d9_9 : decode prog_26_method_9_code 9 = .ok (.iload_n 2, 1) := by decide +kernel
theorem d9_10 : decode prog_26_method_9_code 10 = .ok (.dload_n 3, 1) := by decide +kernel
theorem d9_11 : decode prog_26_method_9_code 11 = .ok (.aload_n 0, 1) := by decide +kernel
theorem d9_12 : decode prog_26_method_9_code 12 = .ok (.getfield 13, 3) := by decide +kernel
theorem d9_15 : decode prog_26_method_9_code 15 = .ok (.iload 5, 2) := by decide +kernel
theorem d9_17 : decode prog_26_method_9_code 17 = .ok (.iconst 1, 1) := by decide +kernel
theorem d9_18 : decode prog_26_method_9_code 18 = .ok (.isub, 1) := by decide +kernel
theorem d9_19 : decode prog_26_method_9_code 19 = .ok (.iconst 2, 1) := by decide +kernel
theorem d9_20 : decode prog_26_method_9_code 20 = .ok (.idiv, 1) := by decide +kernel
theorem d9_21 : decode prog_26_method_9_code 21 = .ok (.iaload, 1) := by decide +kernel
theorem d9_22 : decode prog_26_method_9_code 22 = .ok (.aload_n 0, 1) := by decide +kernel
theorem d9_23 : decode prog_26_method_9_code 23 = .ok (.getfield 7, 3) := by decide +kernel
theorem d9_26 : decode prog_26_method_9_code 26 = .ok (.iload 5, 2) := by decide +kernel
theorem d9_28 : decode prog_26_method_9_code 28 = .ok (.iconst 1, 1) := by decide +kernel
theorem d9_29 : decode prog_26_method_9_code 29 = .ok (.isub, 1) := by decide +kernel
theorem d9_30 : decode prog_26_method_9_code 30 = .ok (.iconst 2, 1) := by decide +kernel
theorem d9_31 : decode prog_26_method_9_code 31 = .ok (.idiv, 1) := by decide +kernel
theorem d9_32 : decode prog_26_method_9_code 32 = .ok (.daload, 1) := by decide +kernel
theorem d9_33 : decode prog_26_method_9_code 33 = .ok (.invokevirtual 98, 3) := by decide +kernel
theorem d9_36 : decode prog_26_method_9_code 36 = .ok (.ifCond .eq 46, 3) := by decide +kernel
theorem d9_39 : decode prog_26_method_9_code 39 = .ok (.iload 5, 2) := by decide +kernel
theorem d9_41 : decode prog_26_method_9_code 41 = .ok (.iconst 1, 1) := by decide +kernel
theorem d9_42 : decode prog_26_method_9_code 42 = .ok (.isub, 1) := by decide +kernel
theorem d9_43 : decode prog_26_method_9_code 43 = .ok (.iconst 2, 1) := by decide +kernel
theorem d9_44 : decode prog_26_method_9_code 44 = .ok (.idiv, 1) := by decide +kernel
theorem d9_45 : decode prog_26_method_9_code 45 = .ok (.istore 6, 2) := by decide +kernel
theorem d9_47 : decode prog_26_method_9_code 47 = .ok (.aload_n 0, 1) := by decide +kernel
theorem d9_48 : decode prog_26_method_9_code 48 = .ok (.getfield 13, 3) := by decide +kernel
theorem d9_51 : decode prog_26_method_9_code 51 = .ok (.iload 5, 2) := by decide +kernel
theorem d9_53 : decode prog_26_method_9_code 53 = .ok (.aload_n 0, 1) := by decide +kernel
theorem d9_54 : decode prog_26_method_9_code 54 = .ok (.getfield 13, 3) := by decide +kernel
theorem d9_57 : decode prog_26_method_9_code 57 = .ok (.iload 6, 2) := by decide +kernel
theorem d9_59 : decode prog_26_method_9_code 59 = .ok (.iaload, 1) := by decide +kernel
theorem d9_60 : decode prog_26_method_9_code 60 = .ok (.iastore, 1) := by decide +kernel
theorem d9_61 : decode prog_26_method_9_code 61 = .ok (.aload_n 0, 1) := by decide +kernel
theorem d9_62 : decode prog_26_method_9_code 62 = .ok (.getfield 7, 3) := by decide +kernel
theorem d9_65 : decode prog_26_method_9_code 65 = .ok (.iload 5, 2) := by decide +kernel
theorem d9_67 : decode prog_26_method_9_code 67 = .ok (.aload_n 0, 1) := by decide +kernel
theorem d9_68 : decode prog_26_method_9_code 68 = .ok (.getfield 7, 3) := by decide +kernel
theorem d9_71 : decode prog_26_method_9_code 71 = .ok (.iload 6, 2) := by decide +kernel
theorem d9_73 : decode prog_26_method_9_code 73 = .ok (.daload, 1) := by decide +kernel
theorem d9_74 : decode prog_26_method_9_code 74 = .ok (.dastore, 1) := by decide +kernel
theorem d9_75 : decode prog_26_method_9_code 75 = .ok (.iload 6, 2) := by decide +kernel
theorem d9_77 : decode prog_26_method_9_code 77 = .ok (.istore 5, 2) := by decide +kernel
theorem d9_79 : decode prog_26_method_9_code 79 = .ok (.goto (-76), 3) := by decide +kernel
theorem d9_82 : decode prog_26_method_9_code 82 = .ok (.aload_n 0, 1) := by decide +kernel
theorem d9_83 : decode prog_26_method_9_code 83 = .ok (.getfield 13, 3) := by decide +kernel
theorem d9_86 : decode prog_26_method_9_code 86 = .ok (.iload 5, 2) := by decide +kernel
theorem d9_88 : decode prog_26_method_9_code 88 = .ok (.iload_n 2, 1) := by decide +kernel
theorem d9_89 : decode prog_26_method_9_code 89 = .ok (.iastore, 1) := by decide +kernel
theorem d9_90 : decode prog_26_method_9_code 90 = .ok (.aload_n 0, 1) := by decide +kernel
theorem d9_91 : decode prog_26_method_9_code 91 = .ok (.getfield 7, 3) := by decide +kernel
theorem d9_94 : decode prog_26_method_9_code 94 = .ok (.iload 5, 2) := by decide +kernel
theorem d9_96 : decode prog_26_method_9_code 96 = .ok (.dload_n 3, 1) := by decide +kernel
theorem d9_97 : decode prog_26_method_9_code 97 = .ok (.dastore, 1) := by decide +kernel
theorem d9_98 : decode prog_26_method_9_code 98 = .ok (.return_, 1) := by decide +kernel
theorem pd_0 : parseMethodDescriptor "(IDID)Z" = some ⟨[.int, .double, .int, .double], some .boolean⟩ := by decide +kernel
theorem ef_9u0 (m : MethodId) (x0 : Addr) (x1 : Int32) (x2 : Int32) (x3 : UInt64) : entryFrame m #[(.ref x0), (.int x1), (.int x2), (.double x3)] 7 = mkF m 0 #[.val (.ref x0), .val (.int x1), .val (.int x2), .val (.double x3), .second, .unset, .unset] [] := by first | (simp [entryFrame, mkF, argsToLocals, Value.category]; done) | rfl
def Q9u0 (Z : State) (sv pl : Int32 → Int32) (ob sa da pa : Addr) (sz : Int32) (fd fs fp : Nat → Value) (x : Int32) (h0 : Heap) (n0 : Nat) (v : Option Value) (h : Heap) (L : List Loc) : Prop := v = none ∧ Fr n0 L ∧ Keep h0 h [sa, da] ∧ ∃ fd' fs', ∃ r0 : Int32, own_S Z h ob sa da pa sz fd' fs' fp ∧ own_at sv fd' fs' 0 r0 ∧ r0 = x
set_option maxRecDepth 65536 in
set_option maxHeartbeats 40000000 in
theorem rm9u0 (l : Launch) (Z : State) (a0 : Array Value) (hw : ∀ d ∈ tables_1, d.before a0 Z = true) (ws : List Jvm.Cond) (sv pl : Int32 → Int32) (ob sa da pa : Addr) (sz : Int32) (fd fs fp : Nat → Value) (x : Int32) (h0 : Heap) (n0 : Nat) (Z0 : n0 ≤ h0.size) (Sb : own_S Z h0 ob sa da pa sz fd fs fp) (Nn : own_N n0 ob sa da pa) (hP : own_P pl fp) (k_x : own_ok x) :
    MetFree l (⟨"com/example/etsinta/etsinta/search/Best", "siftUp", "(IID)V"⟩ : MethodName) (head1 (Jvm.Cond.code (⟨"com/example/etsinta/etsinta/search/Best", "siftUp", "(IID)V"⟩ : MethodName) prog_26_method_9_code 7 none :: ws) ({ frames := 1, cells := 0, slots := 0, locals := 18 } : Room)) (fun aa_ U => aa_ = #[(.ref ob), (.int 0), (.int x), (.double (FP.i2d (sv x)))] ∧ Z.Warmed39 U.vm ∧ U.heap = h0) (fun _ _ _ _ _ => True) (fun _ U o U' => ∃ v L, o = .returned v ∧ Q9u0 Z sv pl ob sa da pa sz fd fs fp x h0 n0 v U'.heap L ∧ FrameEnd U o U' L ({ frames := 1, cells := 0, slots := 0, locals := 18 } : Room).cells ({ frames := 1, cells := 0, slots := 0, locals := 18 } : Room).slots) := by
  refine own_met (Q := fun v h L => Q9u0 Z sv pl ob sa da pa sz fd fs fp x h0 n0 v h L) (plainFor_of_name pn_0) ?_
  intro p e s m below meth c s₁ hx hby hml hret hlk hown hnm hZ X0 e0
  have N0 := Fr.nil n0
  rw [ef_9u0 m ob (0 : Int32) x (FP.i2d (sv x))]
  show OwnG p e below s _ _ _ (s₁.setTop (mkF m 0 #[.val (.ref ob), .val (.int 0), .val (.int x), .val (.double (FP.i2d (sv x))), .second, .unset, .unset] []))
  refine own_by (fun _ K => XS.iloadN X0.here hx rfl (hb hby d9_0) rfl K) ?_
  show OwnG p e below s _ _ _ (s₁.setTop (mkF m 1 _ [(.int 0)]))
  refine own_by (fun _ K => XS.istore X0.here hx rfl (hb hby d9_1) rfl (l' := #[.val (.ref ob), .val (.int 0), .val (.int x), .val (.double (FP.i2d (sv x))), .second, .val (.int 0), .unset]) rfl K) ?_
  show OwnG p e below s _ _ _ (s₁.setTop (mkF m 3 _ []))
  refine own_by (fun _ K => XS.iload X0.here hx rfl (hb hby d9_3) rfl K) ?_
  show OwnG p e below s _ _ _ (s₁.setTop (mkF m 5 _ [(.int 0)]))
  refine own_by (fun _ K => XS.ifYes X0.here hx rfl (pc0 := 5) (pc' := 82) rfl (hb hby d9_5) rfl ((if0 _ _).trans (flt (by decide)).2.2.2) (by decide) (by decide) K) ?_
  show OwnG p e below s _ _ _ (s₁.setTop (mkF m 82 _ []))
  refine own_by (fun _ K => XS.aloadN X0.here hx rfl (hb hby d9_82) rfl rfl K) ?_
  show OwnG p e below s _ _ _ (s₁.setTop (mkF m 83 _ [(.ref ob)]))
  obtain ⟨T1, X1, e1, st1⟩ := getF X0 hx hZ hown (host := "") (Or.inl (own_w hw 14 rfl)) Via.refl e0 Sb.2.2.1 (g := (mkF m 83 #[.val (.ref ob), .val (.int 0), .val (.int x), .val (.double (FP.i2d (sv x))), .second, .val (.int 0), .unset] [(.ref ob)])) rfl rfl (hb hby d9_83)
  refine own_by (fun _ K => st1 _ K) ?_
  show OwnG p e below s _ _ _ (T1.setTop (mkF m 86 _ [(.ref da)]))
  refine own_by (fun _ K => XS.iload X1.here hx rfl (hb hby d9_86) rfl K) ?_
  show OwnG p e below s _ _ _ (T1.setTop (mkF m 88 _ [(.int 0), (.ref da)]))
  refine own_by (fun _ K => XS.iloadN X1.here hx rfl (hb hby d9_88) rfl K) ?_
  show OwnG p e below s _ _ _ (T1.setTop (mkF m 89 _ [(.int x), (.int 0), (.ref da)]))
  obtain ⟨T2, h2, X2, e2, W2, A2, st2⟩ := own_stI X1 hx hZ e1 Sb.2.2.2.2.2.2.1 (j := (0 : Int32)) (i := 0) ⟨by decide, rfl, by decide⟩ (g := (mkF m 89 #[.val (.ref ob), .val (.int 0), .val (.int x), .val (.double (FP.i2d (sv x))), .second, .val (.int 0), .unset] [(.int x), (.int 0), (.ref da)])) rfl rfl (hb hby d9_89)
  refine own_by (fun _ K => st2 _ K) ?_
  have f3 := Exa.wr W2 Sb.1
  have f4 := Fld.other W2 Sb.2.1 (Or.inl Nn.2.2.2.2.1)
  have f5 := Fld.other W2 Sb.2.2.1 (Or.inl Nn.2.2.2.2.1)
  have f6 := Fld.other W2 Sb.2.2.2.1 (Or.inl Nn.2.2.2.2.1)
  have f7 := Fld.other W2 Sb.2.2.2.2.1 (Or.inl Nn.2.2.2.2.1)
  have f8 := Fld.other W2 Sb.2.2.2.2.2.1 (Or.inl Nn.2.2.2.2.1)
  have f10 := OwnA.other W2 Sb.2.2.2.2.2.2.2.1 Nn.2.2.2.2.2.2.1
  have f11 := OwnA.other W2 Sb.2.2.2.2.2.2.2.2 (Ne.symm Nn.2.2.2.2.2.2.2.2)
  have f12 := Keep.wr (Keep.refl h0 [sa, da]) W2 (Or.inl (by simp))
  have N2 := Fr.snoc X2 N0 Nn.2.2.1
  have sz2 : n0 ≤ h2.size := by rw [W2.size]; exact Z0
  show OwnG p e below s _ _ _ (T2.setTop (mkF m 90 _ []))
  refine own_by (fun _ K => XS.aloadN X2.here hx rfl (hb hby d9_90) rfl rfl K) ?_
  show OwnG p e below s _ _ _ (T2.setTop (mkF m 91 _ [(.ref ob)]))
  obtain ⟨T13, X13, e13, st13⟩ := getF X2 hx hZ hown (host := "") (Or.inl (own_w hw 12 rfl)) Via.refl e2 f4 (g := (mkF m 91 #[.val (.ref ob), .val (.int 0), .val (.int x), .val (.double (FP.i2d (sv x))), .second, .val (.int 0), .unset] [(.ref ob)])) rfl rfl (hb hby d9_91)
  refine own_by (fun _ K => st13 _ K) ?_
  show OwnG p e below s _ _ _ (T13.setTop (mkF m 94 _ [(.ref sa)]))
  refine own_by (fun _ K => XS.iload X13.here hx rfl (hb hby d9_94) rfl K) ?_
  show OwnG p e below s _ _ _ (T13.setTop (mkF m 96 _ [(.int 0), (.ref sa)]))
  refine own_by (fun _ K => XS.dloadN X13.here hx rfl (hb hby d9_96) rfl K) ?_
  show OwnG p e below s _ _ _ (T13.setTop (mkF m 97 _ [(.double (FP.i2d (sv x))), (.int 0), (.ref sa)]))
  obtain ⟨T14, h14, X14, e14, W14, A14, st14⟩ := own_stD X13 hx hZ e13 f10 (j := (0 : Int32)) (i := 0) ⟨by decide, rfl, by decide⟩ (g := (mkF m 97 #[.val (.ref ob), .val (.int 0), .val (.int x), .val (.double (FP.i2d (sv x))), .second, .val (.int 0), .unset] [(.double (FP.i2d (sv x))), (.int 0), (.ref sa)])) rfl rfl (hb hby d9_97)
  refine own_by (fun _ K => st14 _ K) ?_
  have f15 := Exa.wr W14 f3
  have f16 := Fld.other W14 f4 (Or.inl Nn.2.2.2.1)
  have f17 := Fld.other W14 f5 (Or.inl Nn.2.2.2.1)
  have f18 := Fld.other W14 f6 (Or.inl Nn.2.2.2.1)
  have f19 := Fld.other W14 f7 (Or.inl Nn.2.2.2.1)
  have f20 := Fld.other W14 f8 (Or.inl Nn.2.2.2.1)
  have f21 := OwnA.other W14 A2 (Ne.symm Nn.2.2.2.2.2.2.1)
  have f23 := OwnA.other W14 f11 (Ne.symm Nn.2.2.2.2.2.2.2.1)
  have f24 := Keep.wr f12 W14 (Or.inl (by simp))
  have N14 := Fr.snoc X14 N2 Nn.2.1
  have sz14 : n0 ≤ h14.size := by rw [W14.size]; exact sz2
  show OwnG p e below s _ _ _ (T14.setTop (mkF m 98 _ []))
  exact own_outV X14 hx hret hlk (hb hby d9_98) (by show _ ∧ _; rw [e14]; exact ⟨rfl, N14, f24, _, _, x, ⟨f15, f16, f17, f18, f19, f20, f21, A14, f23⟩, ⟨rfl, rfl, k_x⟩, rfl⟩) (by decide) (by decide)
theorem ef_9u1 (m : MethodId) (x0 : Addr) (x1 : Int32) (x2 : Int32) (x3 : UInt64) : entryFrame m #[(.ref x0), (.int x1), (.int x2), (.double x3)] 7 = mkF m 0 #[.val (.ref x0), .val (.int x1), .val (.int x2), .val (.double x3), .second, .unset, .unset] [] := by first | (simp [entryFrame, mkF, argsToLocals, Value.category]; done) | rfl
def Q9u1 (Z : State) (sv pl : Int32 → Int32) (ob sa da pa : Addr) (sz : Int32) (fd fs fp : Nat → Value) (d0 x : Int32) (h0 : Heap) (n0 : Nat) (v : Option Value) (h : Heap) (L : List Loc) : Prop := v = none ∧ Fr n0 L ∧ Keep h0 h [sa, da] ∧ ∃ fd' fs', ∃ r0 r1 : Int32, own_S Z h ob sa da pa sz fd' fs' fp ∧ own_at sv fd' fs' 0 r0 ∧ own_at sv fd' fs' 1 r1 ∧ own_U1 (own_K sv pl) d0 x r0 r1
set_option maxRecDepth 65536 in
set_option maxHeartbeats 40000000 in
theorem rm9u1 (l : Launch) (Z : State) (a0 : Array Value) (hw : ∀ d ∈ tables_1, d.before a0 Z = true) (ws : List Jvm.Cond) (sv pl : Int32 → Int32) (ob sa da pa : Addr) (sz : Int32) (fd fs fp : Nat → Value) (d0 x : Int32) (h0 : Heap) (n0 : Nat) (Z0 : n0 ≤ h0.size) (Sb : own_S Z h0 ob sa da pa sz fd fs fp) (Nn : own_N n0 ob sa da pa) (hP : own_P pl fp) (t0 : own_at sv fd fs 0 d0) (k_x : own_ok x) :
    MetFree l (⟨"com/example/etsinta/etsinta/search/Best", "siftUp", "(IID)V"⟩ : MethodName) (head1 (Jvm.Cond.code (⟨"com/example/etsinta/etsinta/search/Best", "siftUp", "(IID)V"⟩ : MethodName) prog_26_method_9_code 7 none :: ws) ({ frames := 1, cells := 0, slots := 0, locals := 18 } : Room)) (fun aa_ U => aa_ = #[(.ref ob), (.int 1), (.int x), (.double (FP.i2d (sv x)))] ∧ Z.Warmed39 U.vm ∧ U.heap = h0) (fun _ _ _ _ _ => True) (fun _ U o U' => ∃ v L, o = .returned v ∧ Q9u1 Z sv pl ob sa da pa sz fd fs fp d0 x h0 n0 v U'.heap L ∧ FrameEnd U o U' L ({ frames := 1, cells := 0, slots := 0, locals := 18 } : Room).cells ({ frames := 1, cells := 0, slots := 0, locals := 18 } : Room).slots) := by
  refine own_met (Q := fun v h L => Q9u1 Z sv pl ob sa da pa sz fd fs fp d0 x h0 n0 v h L) (plainFor_of_name pn_0) ?_
  intro p e s m below meth c s₁ hx hby hml hret hlk hown hnm hZ X0 e0
  have N0 := Fr.nil n0
  rw [ef_9u1 m ob (1 : Int32) x (FP.i2d (sv x))]
  show OwnG p e below s _ _ _ (s₁.setTop (mkF m 0 #[.val (.ref ob), .val (.int 1), .val (.int x), .val (.double (FP.i2d (sv x))), .second, .unset, .unset] []))
  refine own_by (fun _ K => XS.iloadN X0.here hx rfl (hb hby d9_0) rfl K) ?_
  show OwnG p e below s _ _ _ (s₁.setTop (mkF m 1 _ [(.int 1)]))
  refine own_by (fun _ K => XS.istore X0.here hx rfl (hb hby d9_1) rfl (l' := #[.val (.ref ob), .val (.int 1), .val (.int x), .val (.double (FP.i2d (sv x))), .second, .val (.int 1), .unset]) rfl K) ?_
  show OwnG p e below s _ _ _ (s₁.setTop (mkF m 3 _ []))
  refine own_by (fun _ K => XS.iload X0.here hx rfl (hb hby d9_3) rfl K) ?_
  show OwnG p e below s _ _ _ (s₁.setTop (mkF m 5 _ [(.int 1)]))
  refine own_by (fun _ K => XS.ifNo X0.here hx rfl (hb hby d9_5) rfl ((if0 _ _).trans (tlt (by decide)).2.2.2) K) ?_
  show OwnG p e below s _ _ _ (s₁.setTop (mkF m 8 _ []))
  refine own_by (fun _ K => XS.aloadN X0.here hx rfl (hb hby d9_8) rfl rfl K) ?_
  show OwnG p e below s _ _ _ (s₁.setTop (mkF m 9 _ [(.ref ob)]))
  refine own_by (fun _ K => XS.iloadN X0.here hx rfl (hb hby d9_9) rfl K) ?_
  show OwnG p e below s _ _ _ (s₁.setTop (mkF m 10 _ [(.int x), (.ref ob)]))
  refine own_by (fun _ K => XS.dloadN X0.here hx rfl (hb hby d9_10) rfl K) ?_
  show OwnG p e below s _ _ _ (s₁.setTop (mkF m 11 _ [(.double (FP.i2d (sv x))), (.int x), (.ref ob)]))
  refine own_by (fun _ K => XS.aloadN X0.here hx rfl (hb hby d9_11) rfl rfl K) ?_
  show OwnG p e below s _ _ _ (s₁.setTop (mkF m 12 _ [(.ref ob), (.double (FP.i2d (sv x))), (.int x), (.ref ob)]))
  obtain ⟨T1, X1, e1, st1⟩ := getF X0 hx hZ hown (host := "") (Or.inl (own_w hw 14 rfl)) Via.refl e0 Sb.2.2.1 (g := (mkF m 12 #[.val (.ref ob), .val (.int 1), .val (.int x), .val (.double (FP.i2d (sv x))), .second, .val (.int 1), .unset] [(.ref ob), (.double (FP.i2d (sv x))), (.int x), (.ref ob)])) rfl rfl (hb hby d9_12)
  refine own_by (fun _ K => st1 _ K) ?_
  show OwnG p e below s _ _ _ (T1.setTop (mkF m 15 _ [(.ref da), (.double (FP.i2d (sv x))), (.int x), (.ref ob)]))
  refine own_by (fun _ K => XS.iload X1.here hx rfl (hb hby d9_15) rfl K) ?_
  show OwnG p e below s _ _ _ (T1.setTop (mkF m 17 _ [(.int 1), (.ref da), (.double (FP.i2d (sv x))), (.int x), (.ref ob)]))
  refine own_by (fun _ K => XS.iconst X1.here hx rfl (hb hby d9_17) K) ?_
  show OwnG p e below s _ _ _ (T1.setTop (mkF m 18 _ [(.int 1), (.int 1), (.ref da), (.double (FP.i2d (sv x))), (.int x), (.ref ob)]))
  refine own_by (fun _ K => XS.isub X1.here hx rfl (hb hby d9_18) rfl K) ?_
  show OwnG p e below s _ _ _ (T1.setTop (mkF m 19 _ [(.int 0), (.ref da), (.double (FP.i2d (sv x))), (.int x), (.ref ob)]))
  refine own_by (fun _ K => XS.iconst X1.here hx rfl (hb hby d9_19) K) ?_
  show OwnG p e below s _ _ _ (T1.setTop (mkF m 20 _ [(.int 2), (.int 0), (.ref da), (.double (FP.i2d (sv x))), (.int x), (.ref ob)]))
  refine own_by (fun _ K => XS.idiv X1.here hx rfl (hb hby d9_20) rfl (by decide) K) ?_
  show OwnG p e below s _ _ _ (T1.setTop (mkF m 21 _ [(.int 0), (.ref da), (.double (FP.i2d (sv x))), (.int x), (.ref ob)]))
  refine own_by (fun _ K => own_ldI X1 hx hZ e1 Sb.2.2.2.2.2.2.1 (j := (0 : Int32)) (i := 0) ⟨by decide, rfl, by decide⟩ (v := (.int d0)) t0.1 (g := (mkF m 21 #[.val (.ref ob), .val (.int 1), .val (.int x), .val (.double (FP.i2d (sv x))), .second, .val (.int 1), .unset] [(.int 0), (.ref da), (.double (FP.i2d (sv x))), (.int x), (.ref ob)])) rfl rfl (hb hby d9_21) _ K) ?_
  show OwnG p e below s _ _ _ (T1.setTop (mkF m 22 _ [(.int d0), (.double (FP.i2d (sv x))), (.int x), (.ref ob)]))
  refine own_by (fun _ K => XS.aloadN X1.here hx rfl (hb hby d9_22) rfl rfl K) ?_
  show OwnG p e below s _ _ _ (T1.setTop (mkF m 23 _ [(.ref ob), (.int d0), (.double (FP.i2d (sv x))), (.int x), (.ref ob)]))
  obtain ⟨T2, X2, e2, st2⟩ := getF X1 hx hZ hown (host := "") (Or.inl (own_w hw 12 rfl)) Via.refl e1 Sb.2.1 (g := (mkF m 23 #[.val (.ref ob), .val (.int 1), .val (.int x), .val (.double (FP.i2d (sv x))), .second, .val (.int 1), .unset] [(.ref ob), (.int d0), (.double (FP.i2d (sv x))), (.int x), (.ref ob)])) rfl rfl (hb hby d9_23)
  refine own_by (fun _ K => st2 _ K) ?_
  show OwnG p e below s _ _ _ (T2.setTop (mkF m 26 _ [(.ref sa), (.int d0), (.double (FP.i2d (sv x))), (.int x), (.ref ob)]))
  refine own_by (fun _ K => XS.iload X2.here hx rfl (hb hby d9_26) rfl K) ?_
  show OwnG p e below s _ _ _ (T2.setTop (mkF m 28 _ [(.int 1), (.ref sa), (.int d0), (.double (FP.i2d (sv x))), (.int x), (.ref ob)]))
  refine own_by (fun _ K => XS.iconst X2.here hx rfl (hb hby d9_28) K) ?_
  show OwnG p e below s _ _ _ (T2.setTop (mkF m 29 _ [(.int 1), (.int 1), (.ref sa), (.int d0), (.double (FP.i2d (sv x))), (.int x), (.ref ob)]))
  refine own_by (fun _ K => XS.isub X2.here hx rfl (hb hby d9_29) rfl K) ?_
  show OwnG p e below s _ _ _ (T2.setTop (mkF m 30 _ [(.int 0), (.ref sa), (.int d0), (.double (FP.i2d (sv x))), (.int x), (.ref ob)]))
  refine own_by (fun _ K => XS.iconst X2.here hx rfl (hb hby d9_30) K) ?_
  show OwnG p e below s _ _ _ (T2.setTop (mkF m 31 _ [(.int 2), (.int 0), (.ref sa), (.int d0), (.double (FP.i2d (sv x))), (.int x), (.ref ob)]))
  refine own_by (fun _ K => XS.idiv X2.here hx rfl (hb hby d9_31) rfl (by decide) K) ?_
  show OwnG p e below s _ _ _ (T2.setTop (mkF m 32 _ [(.int 0), (.ref sa), (.int d0), (.double (FP.i2d (sv x))), (.int x), (.ref ob)]))
  refine own_by (fun _ K => own_ldD X2 hx hZ e2 Sb.2.2.2.2.2.2.2.1 (j := (0 : Int32)) (i := 0) ⟨by decide, rfl, by decide⟩ (v := (.double (FP.i2d (sv d0)))) t0.2.1 (g := (mkF m 32 #[.val (.ref ob), .val (.int 1), .val (.int x), .val (.double (FP.i2d (sv x))), .second, .val (.int 1), .unset] [(.int 0), (.ref sa), (.int d0), (.double (FP.i2d (sv x))), (.int x), (.ref ob)])) rfl rfl (hb hby d9_32) _ K) ?_
  show OwnG p e below s _ _ _ (T2.setTop (mkF m 33 _ [(.double (FP.i2d (sv d0))), (.int d0), (.double (FP.i2d (sv x))), (.int x), (.ref ob)]))
  obtain ⟨cq3, q3, q3'⟩ := Exa.cell Sb.1
  obtain ⟨_, _, ⟨T3, L3, k3, n3⟩, -, X3, ⟨Lc3, hQ3, l3, y3, z3⟩, st3⟩ := X2.privateBack hx (y := (⟨"com/example/etsinta/etsinta/search/Best", "worse", "(IDID)Z"⟩ : MethodName)) hown (mvT hZ (own_w hw 69 rfl)) (mvT hZ (own_w hw 70 rfl)) (own_selp hZ (y := (⟨"com/example/etsinta/etsinta/search/Best", "worse", "(IDID)Z"⟩ : MethodName)) (own_w hw 4 rfl) (own_w hw 71 rfl) (own_w hw 70 rfl) (by decide)) (Cond.privateMethod_at (mvP hZ (own_w hw 71 rfl) (args := #[]))) (mvT hZ (own_w hw 72 rfl)) (by decide) (backOf (W := 0) (rm14 l Z a0 hw [] sv pl ob sa da pa sz fd fs fp x d0 h0 n0 Z0 ⟨Sb.1, Sb.2.1, Sb.2.2.1, Sb.2.2.2.1, Sb.2.2.2.2.1, Sb.2.2.2.2.2.1, Sb.2.2.2.2.2.2.1, Sb.2.2.2.2.2.2.2.1, Sb.2.2.2.2.2.2.2.2⟩ hP k_x t0.2.2) hZ (own_w hw 72 rfl) (own_w hw 5 rfl) (by decide) (by decide)) (g := (mkF m 33 #[.val (.ref ob), .val (.int 1), .val (.int x), .val (.double (FP.i2d (sv x))), .second, .val (.int 1), .unset] [(.double (FP.i2d (sv d0))), (.int d0), (.double (FP.i2d (sv x))), (.int x), (.ref ob)])) rfl (by rw [hml]; rfl) (Steps.refl _) (a := ob) (by rw [e2]; exact q3) q3' (argsL := [(.int x), (.double (FP.i2d (sv x))), (.int d0), (.double (FP.i2d (sv d0)))]) (rest := []) (lenOf pd_0 rfl) rfl (by show 2 * 0 + _ ≤ _; exact Nat.le_of_eq rfl) (hb hby d9_33) (fun _ _ => ⟨rfl, e2, (by decide : 0 + 0 ≤ _), (by decide : 0 + 0 ≤ _)⟩)
  dsimp only [Pt.U, Pt.locs, Pt.cells, Pt.slots] at X3 l3 y3 z3 st3 hQ3
  subst l3 y3 z3
  refine own_by (fun _ K => st3.trans K) ?_
  obtain ⟨rfl, N3q, hh3⟩ := hQ3
  have N3 := Fr.app N0 N3q
  have f4 := Sb.1
  rw [← hh3] at f4
  have f5 := Sb.2.1
  rw [← hh3] at f5
  have f6 := Sb.2.2.1
  rw [← hh3] at f6
  have f7 := Sb.2.2.2.1
  rw [← hh3] at f7
  have f8 := Sb.2.2.2.2.1
  rw [← hh3] at f8
  have f9 := Sb.2.2.2.2.2.1
  rw [← hh3] at f9
  have f10 := Sb.2.2.2.2.2.2.1
  rw [← hh3] at f10
  have f11 := Sb.2.2.2.2.2.2.2.1
  rw [← hh3] at f11
  have f12 := Sb.2.2.2.2.2.2.2.2
  rw [← hh3] at f12
  have f13 : Keep h0 T3.heap [sa, da] := by rw [hh3]; exact (Keep.refl h0 [sa, da])
  have sz3 : n0 ≤ T3.heap.size := by rw [hh3]; exact Z0
  show OwnG p e below s _ _ _ (T3.setTop (mkF m 36 _ [(.int (own_b (own_K sv pl x < own_K sv pl d0)))]))
  by_cases hK14 : own_K sv pl x < own_K sv pl d0
  · rw [own_bT hK14]
    show OwnG p e below s _ _ _ (T3.setTop (mkF m 36 #[.val (.ref ob), .val (.int 1), .val (.int x), .val (.double (FP.i2d (sv x))), .second, .val (.int 1), .unset] [(.int 1)]))
    refine own_by (fun _ K => XS.ifNo X3.here hx rfl (hb hby d9_36) rfl ((if0 _ _).trans (feq (by decide)).1) K) ?_
    show OwnG p e below s _ _ _ (T3.setTop (mkF m 39 _ []))
    refine own_by (fun _ K => XS.iload X3.here hx rfl (hb hby d9_39) rfl K) ?_
    show OwnG p e below s _ _ _ (T3.setTop (mkF m 41 _ [(.int 1)]))
    refine own_by (fun _ K => XS.iconst X3.here hx rfl (hb hby d9_41) K) ?_
    show OwnG p e below s _ _ _ (T3.setTop (mkF m 42 _ [(.int 1), (.int 1)]))
    refine own_by (fun _ K => XS.isub X3.here hx rfl (hb hby d9_42) rfl K) ?_
    show OwnG p e below s _ _ _ (T3.setTop (mkF m 43 _ [(.int 0)]))
    refine own_by (fun _ K => XS.iconst X3.here hx rfl (hb hby d9_43) K) ?_
    show OwnG p e below s _ _ _ (T3.setTop (mkF m 44 _ [(.int 2), (.int 0)]))
    refine own_by (fun _ K => XS.idiv X3.here hx rfl (hb hby d9_44) rfl (by decide) K) ?_
    show OwnG p e below s _ _ _ (T3.setTop (mkF m 45 _ [(.int 0)]))
    refine own_by (fun _ K => XS.istore X3.here hx rfl (hb hby d9_45) rfl (l' := #[.val (.ref ob), .val (.int 1), .val (.int x), .val (.double (FP.i2d (sv x))), .second, .val (.int 1), .val (.int 0)]) rfl K) ?_
    show OwnG p e below s _ _ _ (T3.setTop (mkF m 47 _ []))
    refine own_by (fun _ K => XS.aloadN X3.here hx rfl (hb hby d9_47) rfl rfl K) ?_
    show OwnG p e below s _ _ _ (T3.setTop (mkF m 48 _ [(.ref ob)]))
    obtain ⟨T15, X15, e15, st15⟩ := getF X3 hx hZ hown (host := "") (Or.inl (own_w hw 14 rfl)) Via.refl (rfl : T3.heap = T3.heap) f6 (g := (mkF m 48 #[.val (.ref ob), .val (.int 1), .val (.int x), .val (.double (FP.i2d (sv x))), .second, .val (.int 1), .val (.int 0)] [(.ref ob)])) rfl rfl (hb hby d9_48)
    refine own_by (fun _ K => st15 _ K) ?_
    show OwnG p e below s _ _ _ (T15.setTop (mkF m 51 _ [(.ref da)]))
    refine own_by (fun _ K => XS.iload X15.here hx rfl (hb hby d9_51) rfl K) ?_
    show OwnG p e below s _ _ _ (T15.setTop (mkF m 53 _ [(.int 1), (.ref da)]))
    refine own_by (fun _ K => XS.aloadN X15.here hx rfl (hb hby d9_53) rfl rfl K) ?_
    show OwnG p e below s _ _ _ (T15.setTop (mkF m 54 _ [(.ref ob), (.int 1), (.ref da)]))
    obtain ⟨T16, X16, e16, st16⟩ := getF X15 hx hZ hown (host := "") (Or.inl (own_w hw 14 rfl)) Via.refl e15 f6 (g := (mkF m 54 #[.val (.ref ob), .val (.int 1), .val (.int x), .val (.double (FP.i2d (sv x))), .second, .val (.int 1), .val (.int 0)] [(.ref ob), (.int 1), (.ref da)])) rfl rfl (hb hby d9_54)
    refine own_by (fun _ K => st16 _ K) ?_
    show OwnG p e below s _ _ _ (T16.setTop (mkF m 57 _ [(.ref da), (.int 1), (.ref da)]))
    refine own_by (fun _ K => XS.iload X16.here hx rfl (hb hby d9_57) rfl K) ?_
    show OwnG p e below s _ _ _ (T16.setTop (mkF m 59 _ [(.int 0), (.ref da), (.int 1), (.ref da)]))
    refine own_by (fun _ K => own_ldI X16 hx hZ e16 f10 (j := (0 : Int32)) (i := 0) ⟨by decide, rfl, by decide⟩ (v := (.int d0)) t0.1 (g := (mkF m 59 #[.val (.ref ob), .val (.int 1), .val (.int x), .val (.double (FP.i2d (sv x))), .second, .val (.int 1), .val (.int 0)] [(.int 0), (.ref da), (.int 1), (.ref da)])) rfl rfl (hb hby d9_59) _ K) ?_
    show OwnG p e below s _ _ _ (T16.setTop (mkF m 60 _ [(.int d0), (.int 1), (.ref da)]))
    obtain ⟨T17, h17, X17, e17, W17, A17, st17⟩ := own_stI X16 hx hZ e16 f10 (j := (1 : Int32)) (i := 1) ⟨by decide, rfl, by decide⟩ (g := (mkF m 60 #[.val (.ref ob), .val (.int 1), .val (.int x), .val (.double (FP.i2d (sv x))), .second, .val (.int 1), .val (.int 0)] [(.int d0), (.int 1), (.ref da)])) rfl rfl (hb hby d9_60)
    refine own_by (fun _ K => st17 _ K) ?_
    have f18 := Exa.wr W17 f4
    have f19 := Fld.other W17 f5 (Or.inl Nn.2.2.2.2.1)
    have f20 := Fld.other W17 f6 (Or.inl Nn.2.2.2.2.1)
    have f21 := Fld.other W17 f7 (Or.inl Nn.2.2.2.2.1)
    have f22 := Fld.other W17 f8 (Or.inl Nn.2.2.2.2.1)
    have f23 := Fld.other W17 f9 (Or.inl Nn.2.2.2.2.1)
    have f25 := OwnA.other W17 f11 Nn.2.2.2.2.2.2.1
    have f26 := OwnA.other W17 f12 (Ne.symm Nn.2.2.2.2.2.2.2.2)
    have f27 := Keep.wr f13 W17 (Or.inl (by simp))
    have N17 := Fr.snoc X17 N3 Nn.2.2.1
    have sz17 : n0 ≤ h17.size := by rw [W17.size]; exact sz3
    show OwnG p e below s _ _ _ (T17.setTop (mkF m 61 _ []))
    refine own_by (fun _ K => XS.aloadN X17.here hx rfl (hb hby d9_61) rfl rfl K) ?_
    show OwnG p e below s _ _ _ (T17.setTop (mkF m 62 _ [(.ref ob)]))
    obtain ⟨T28, X28, e28, st28⟩ := getF X17 hx hZ hown (host := "") (Or.inl (own_w hw 12 rfl)) Via.refl e17 f19 (g := (mkF m 62 #[.val (.ref ob), .val (.int 1), .val (.int x), .val (.double (FP.i2d (sv x))), .second, .val (.int 1), .val (.int 0)] [(.ref ob)])) rfl rfl (hb hby d9_62)
    refine own_by (fun _ K => st28 _ K) ?_
    show OwnG p e below s _ _ _ (T28.setTop (mkF m 65 _ [(.ref sa)]))
    refine own_by (fun _ K => XS.iload X28.here hx rfl (hb hby d9_65) rfl K) ?_
    show OwnG p e below s _ _ _ (T28.setTop (mkF m 67 _ [(.int 1), (.ref sa)]))
    refine own_by (fun _ K => XS.aloadN X28.here hx rfl (hb hby d9_67) rfl rfl K) ?_
    show OwnG p e below s _ _ _ (T28.setTop (mkF m 68 _ [(.ref ob), (.int 1), (.ref sa)]))
    obtain ⟨T29, X29, e29, st29⟩ := getF X28 hx hZ hown (host := "") (Or.inl (own_w hw 12 rfl)) Via.refl e28 f19 (g := (mkF m 68 #[.val (.ref ob), .val (.int 1), .val (.int x), .val (.double (FP.i2d (sv x))), .second, .val (.int 1), .val (.int 0)] [(.ref ob), (.int 1), (.ref sa)])) rfl rfl (hb hby d9_68)
    refine own_by (fun _ K => st29 _ K) ?_
    show OwnG p e below s _ _ _ (T29.setTop (mkF m 71 _ [(.ref sa), (.int 1), (.ref sa)]))
    refine own_by (fun _ K => XS.iload X29.here hx rfl (hb hby d9_71) rfl K) ?_
    show OwnG p e below s _ _ _ (T29.setTop (mkF m 73 _ [(.int 0), (.ref sa), (.int 1), (.ref sa)]))
    refine own_by (fun _ K => own_ldD X29 hx hZ e29 f25 (j := (0 : Int32)) (i := 0) ⟨by decide, rfl, by decide⟩ (v := (.double (FP.i2d (sv d0)))) t0.2.1 (g := (mkF m 73 #[.val (.ref ob), .val (.int 1), .val (.int x), .val (.double (FP.i2d (sv x))), .second, .val (.int 1), .val (.int 0)] [(.int 0), (.ref sa), (.int 1), (.ref sa)])) rfl rfl (hb hby d9_73) _ K) ?_
    show OwnG p e below s _ _ _ (T29.setTop (mkF m 74 _ [(.double (FP.i2d (sv d0))), (.int 1), (.ref sa)]))
    obtain ⟨T30, h30, X30, e30, W30, A30, st30⟩ := own_stD X29 hx hZ e29 f25 (j := (1 : Int32)) (i := 1) ⟨by decide, rfl, by decide⟩ (g := (mkF m 74 #[.val (.ref ob), .val (.int 1), .val (.int x), .val (.double (FP.i2d (sv x))), .second, .val (.int 1), .val (.int 0)] [(.double (FP.i2d (sv d0))), (.int 1), (.ref sa)])) rfl rfl (hb hby d9_74)
    refine own_by (fun _ K => st30 _ K) ?_
    have f31 := Exa.wr W30 f18
    have f32 := Fld.other W30 f19 (Or.inl Nn.2.2.2.1)
    have f33 := Fld.other W30 f20 (Or.inl Nn.2.2.2.1)
    have f34 := Fld.other W30 f21 (Or.inl Nn.2.2.2.1)
    have f35 := Fld.other W30 f22 (Or.inl Nn.2.2.2.1)
    have f36 := Fld.other W30 f23 (Or.inl Nn.2.2.2.1)
    have f37 := OwnA.other W30 A17 (Ne.symm Nn.2.2.2.2.2.2.1)
    have f39 := OwnA.other W30 f26 (Ne.symm Nn.2.2.2.2.2.2.2.1)
    have f40 := Keep.wr f27 W30 (Or.inl (by simp))
    have N30 := Fr.snoc X30 N17 Nn.2.1
    have sz30 : n0 ≤ h30.size := by rw [W30.size]; exact sz17
    show OwnG p e below s _ _ _ (T30.setTop (mkF m 75 _ []))
    refine own_by (fun _ K => XS.iload X30.here hx rfl (hb hby d9_75) rfl K) ?_
    show OwnG p e below s _ _ _ (T30.setTop (mkF m 77 _ [(.int 0)]))
    refine own_by (fun _ K => XS.istore X30.here hx rfl (hb hby d9_77) rfl (l' := #[.val (.ref ob), .val (.int 1), .val (.int x), .val (.double (FP.i2d (sv x))), .second, .val (.int 0), .val (.int 0)]) rfl K) ?_
    show OwnG p e below s _ _ _ (T30.setTop (mkF m 79 _ []))
    refine own_by (fun _ K => XS.goto X30.here hx rfl (pc0 := 79) (pc' := 3) rfl (hb hby d9_79) (by decide) (by decide) K) ?_
    show OwnG p e below s _ _ _ (T30.setTop (mkF m 3 _ []))
    refine own_by (fun _ K => XS.iload X30.here hx rfl (hb hby d9_3) rfl K) ?_
    show OwnG p e below s _ _ _ (T30.setTop (mkF m 5 _ [(.int 0)]))
    refine own_by (fun _ K => XS.ifYes X30.here hx rfl (pc0 := 5) (pc' := 82) rfl (hb hby d9_5) rfl ((if0 _ _).trans (flt (by decide)).2.2.2) (by decide) (by decide) K) ?_
    show OwnG p e below s _ _ _ (T30.setTop (mkF m 82 _ []))
    refine own_by (fun _ K => XS.aloadN X30.here hx rfl (hb hby d9_82) rfl rfl K) ?_
    show OwnG p e below s _ _ _ (T30.setTop (mkF m 83 _ [(.ref ob)]))
    obtain ⟨T41, X41, e41, st41⟩ := getF X30 hx hZ hown (host := "") (Or.inl (own_w hw 14 rfl)) Via.refl e30 f33 (g := (mkF m 83 #[.val (.ref ob), .val (.int 1), .val (.int x), .val (.double (FP.i2d (sv x))), .second, .val (.int 0), .val (.int 0)] [(.ref ob)])) rfl rfl (hb hby d9_83)
    refine own_by (fun _ K => st41 _ K) ?_
    show OwnG p e below s _ _ _ (T41.setTop (mkF m 86 _ [(.ref da)]))
    refine own_by (fun _ K => XS.iload X41.here hx rfl (hb hby d9_86) rfl K) ?_
    show OwnG p e below s _ _ _ (T41.setTop (mkF m 88 _ [(.int 0), (.ref da)]))
    refine own_by (fun _ K => XS.iloadN X41.here hx rfl (hb hby d9_88) rfl K) ?_
    show OwnG p e below s _ _ _ (T41.setTop (mkF m 89 _ [(.int x), (.int 0), (.ref da)]))
    obtain ⟨T42, h42, X42, e42, W42, A42, st42⟩ := own_stI X41 hx hZ e41 f37 (j := (0 : Int32)) (i := 0) ⟨by decide, rfl, by decide⟩ (g := (mkF m 89 #[.val (.ref ob), .val (.int 1), .val (.int x), .val (.double (FP.i2d (sv x))), .second, .val (.int 0), .val (.int 0)] [(.int x), (.int 0), (.ref da)])) rfl rfl (hb hby d9_89)
    refine own_by (fun _ K => st42 _ K) ?_
    have f43 := Exa.wr W42 f31
    have f44 := Fld.other W42 f32 (Or.inl Nn.2.2.2.2.1)
    have f45 := Fld.other W42 f33 (Or.inl Nn.2.2.2.2.1)
    have f46 := Fld.other W42 f34 (Or.inl Nn.2.2.2.2.1)
    have f47 := Fld.other W42 f35 (Or.inl Nn.2.2.2.2.1)
    have f48 := Fld.other W42 f36 (Or.inl Nn.2.2.2.2.1)
    have f50 := OwnA.other W42 A30 Nn.2.2.2.2.2.2.1
    have f51 := OwnA.other W42 f39 (Ne.symm Nn.2.2.2.2.2.2.2.2)
    have f52 := Keep.wr f40 W42 (Or.inl (by simp))
    have N42 := Fr.snoc X42 N30 Nn.2.2.1
    have sz42 : n0 ≤ h42.size := by rw [W42.size]; exact sz30
    show OwnG p e below s _ _ _ (T42.setTop (mkF m 90 _ []))
    refine own_by (fun _ K => XS.aloadN X42.here hx rfl (hb hby d9_90) rfl rfl K) ?_
    show OwnG p e below s _ _ _ (T42.setTop (mkF m 91 _ [(.ref ob)]))
    obtain ⟨T53, X53, e53, st53⟩ := getF X42 hx hZ hown (host := "") (Or.inl (own_w hw 12 rfl)) Via.refl e42 f44 (g := (mkF m 91 #[.val (.ref ob), .val (.int 1), .val (.int x), .val (.double (FP.i2d (sv x))), .second, .val (.int 0), .val (.int 0)] [(.ref ob)])) rfl rfl (hb hby d9_91)
    refine own_by (fun _ K => st53 _ K) ?_
    show OwnG p e below s _ _ _ (T53.setTop (mkF m 94 _ [(.ref sa)]))
    refine own_by (fun _ K => XS.iload X53.here hx rfl (hb hby d9_94) rfl K) ?_
    show OwnG p e below s _ _ _ (T53.setTop (mkF m 96 _ [(.int 0), (.ref sa)]))
    refine own_by (fun _ K => XS.dloadN X53.here hx rfl (hb hby d9_96) rfl K) ?_
    show OwnG p e below s _ _ _ (T53.setTop (mkF m 97 _ [(.double (FP.i2d (sv x))), (.int 0), (.ref sa)]))
    obtain ⟨T54, h54, X54, e54, W54, A54, st54⟩ := own_stD X53 hx hZ e53 f50 (j := (0 : Int32)) (i := 0) ⟨by decide, rfl, by decide⟩ (g := (mkF m 97 #[.val (.ref ob), .val (.int 1), .val (.int x), .val (.double (FP.i2d (sv x))), .second, .val (.int 0), .val (.int 0)] [(.double (FP.i2d (sv x))), (.int 0), (.ref sa)])) rfl rfl (hb hby d9_97)
    refine own_by (fun _ K => st54 _ K) ?_
    have f55 := Exa.wr W54 f43
    have f56 := Fld.other W54 f44 (Or.inl Nn.2.2.2.1)
    have f57 := Fld.other W54 f45 (Or.inl Nn.2.2.2.1)
    have f58 := Fld.other W54 f46 (Or.inl Nn.2.2.2.1)
    have f59 := Fld.other W54 f47 (Or.inl Nn.2.2.2.1)
    have f60 := Fld.other W54 f48 (Or.inl Nn.2.2.2.1)
    have f61 := OwnA.other W54 A42 (Ne.symm Nn.2.2.2.2.2.2.1)
    have f63 := OwnA.other W54 f51 (Ne.symm Nn.2.2.2.2.2.2.2.1)
    have f64 := Keep.wr f52 W54 (Or.inl (by simp))
    have N54 := Fr.snoc X54 N42 Nn.2.1
    have sz54 : n0 ≤ h54.size := by rw [W54.size]; exact sz42
    show OwnG p e below s _ _ _ (T54.setTop (mkF m 98 _ []))
    exact own_outV X54 hx hret hlk (hb hby d9_98) (by show _ ∧ _; rw [e54]; exact ⟨rfl, N54, f64, _, _, x, d0, ⟨f55, f56, f57, f58, f59, f60, f61, A54, f63⟩, ⟨rfl, rfl, k_x⟩, ⟨rfl, rfl, t0.2.2⟩, (by unfold own_U1; rw [if_pos hK14]; exact ⟨rfl, rfl⟩)⟩) (by decide) (by decide)
  · rw [own_bF hK14]
    show OwnG p e below s _ _ _ (T3.setTop (mkF m 36 #[.val (.ref ob), .val (.int 1), .val (.int x), .val (.double (FP.i2d (sv x))), .second, .val (.int 1), .unset] [(.int 0)]))
    refine own_by (fun _ K => XS.ifYes X3.here hx rfl (pc0 := 36) (pc' := 82) rfl (hb hby d9_36) rfl ((if0 _ _).trans (teq (by decide)).1) (by decide) (by decide) K) ?_
    show OwnG p e below s _ _ _ (T3.setTop (mkF m 82 _ []))
    refine own_by (fun _ K => XS.aloadN X3.here hx rfl (hb hby d9_82) rfl rfl K) ?_
    show OwnG p e below s _ _ _ (T3.setTop (mkF m 83 _ [(.ref ob)]))
    obtain ⟨T65, X65, e65, st65⟩ := getF X3 hx hZ hown (host := "") (Or.inl (own_w hw 14 rfl)) Via.refl (rfl : T3.heap = T3.heap) f6 (g := (mkF m 83 #[.val (.ref ob), .val (.int 1), .val (.int x), .val (.double (FP.i2d (sv x))), .second, .val (.int 1), .unset] [(.ref ob)])) rfl rfl (hb hby d9_83)
    refine own_by (fun _ K => st65 _ K) ?_
    show OwnG p e below s _ _ _ (T65.setTop (mkF m 86 _ [(.ref da)]))
    refine own_by (fun _ K => XS.iload X65.here hx rfl (hb hby d9_86) rfl K) ?_
    show OwnG p e below s _ _ _ (T65.setTop (mkF m 88 _ [(.int 1), (.ref da)]))
    refine own_by (fun _ K => XS.iloadN X65.here hx rfl (hb hby d9_88) rfl K) ?_
    show OwnG p e below s _ _ _ (T65.setTop (mkF m 89 _ [(.int x), (.int 1), (.ref da)]))
    obtain ⟨T66, h66, X66, e66, W66, A66, st66⟩ := own_stI X65 hx hZ e65 f10 (j := (1 : Int32)) (i := 1) ⟨by decide, rfl, by decide⟩ (g := (mkF m 89 #[.val (.ref ob), .val (.int 1), .val (.int x), .val (.double (FP.i2d (sv x))), .second, .val (.int 1), .unset] [(.int x), (.int 1), (.ref da)])) rfl rfl (hb hby d9_89)
    refine own_by (fun _ K => st66 _ K) ?_
    have f67 := Exa.wr W66 f4
    have f68 := Fld.other W66 f5 (Or.inl Nn.2.2.2.2.1)
    have f69 := Fld.other W66 f6 (Or.inl Nn.2.2.2.2.1)
    have f70 := Fld.other W66 f7 (Or.inl Nn.2.2.2.2.1)
    have f71 := Fld.other W66 f8 (Or.inl Nn.2.2.2.2.1)
    have f72 := Fld.other W66 f9 (Or.inl Nn.2.2.2.2.1)
    have f74 := OwnA.other W66 f11 Nn.2.2.2.2.2.2.1
    have f75 := OwnA.other W66 f12 (Ne.symm Nn.2.2.2.2.2.2.2.2)
    have f76 := Keep.wr f13 W66 (Or.inl (by simp))
    have N66 := Fr.snoc X66 N3 Nn.2.2.1
    have sz66 : n0 ≤ h66.size := by rw [W66.size]; exact sz3
    show OwnG p e below s _ _ _ (T66.setTop (mkF m 90 _ []))
    refine own_by (fun _ K => XS.aloadN X66.here hx rfl (hb hby d9_90) rfl rfl K) ?_
    show OwnG p e below s _ _ _ (T66.setTop (mkF m 91 _ [(.ref ob)]))
    obtain ⟨T77, X77, e77, st77⟩ := getF X66 hx hZ hown (host := "") (Or.inl (own_w hw 12 rfl)) Via.refl e66 f68 (g := (mkF m 91 #[.val (.ref ob), .val (.int 1), .val (.int x), .val (.double (FP.i2d (sv x))), .second, .val (.int 1), .unset] [(.ref ob)])) rfl rfl (hb hby d9_91)
    refine own_by (fun _ K => st77 _ K) ?_
    show OwnG p e below s _ _ _ (T77.setTop (mkF m 94 _ [(.ref sa)]))
    refine own_by (fun _ K => XS.iload X77.here hx rfl (hb hby d9_94) rfl K) ?_
    show OwnG p e below s _ _ _ (T77.setTop (mkF m 96 _ [(.int 1), (.ref sa)]))
    refine own_by (fun _ K => XS.dloadN X77.here hx rfl (hb hby d9_96) rfl K) ?_
    show OwnG p e below s _ _ _ (T77.setTop (mkF m 97 _ [(.double (FP.i2d (sv x))), (.int 1), (.ref sa)]))
    obtain ⟨T78, h78, X78, e78, W78, A78, st78⟩ := own_stD X77 hx hZ e77 f74 (j := (1 : Int32)) (i := 1) ⟨by decide, rfl, by decide⟩ (g := (mkF m 97 #[.val (.ref ob), .val (.int 1), .val (.int x), .val (.double (FP.i2d (sv x))), .second, .val (.int 1), .unset] [(.double (FP.i2d (sv x))), (.int 1), (.ref sa)])) rfl rfl (hb hby d9_97)
    refine own_by (fun _ K => st78 _ K) ?_
    have f79 := Exa.wr W78 f67
    have f80 := Fld.other W78 f68 (Or.inl Nn.2.2.2.1)
    have f81 := Fld.other W78 f69 (Or.inl Nn.2.2.2.1)
    have f82 := Fld.other W78 f70 (Or.inl Nn.2.2.2.1)
    have f83 := Fld.other W78 f71 (Or.inl Nn.2.2.2.1)
    have f84 := Fld.other W78 f72 (Or.inl Nn.2.2.2.1)
    have f85 := OwnA.other W78 A66 (Ne.symm Nn.2.2.2.2.2.2.1)
    have f87 := OwnA.other W78 f75 (Ne.symm Nn.2.2.2.2.2.2.2.1)
    have f88 := Keep.wr f76 W78 (Or.inl (by simp))
    have N78 := Fr.snoc X78 N66 Nn.2.1
    have sz78 : n0 ≤ h78.size := by rw [W78.size]; exact sz66
    show OwnG p e below s _ _ _ (T78.setTop (mkF m 98 _ []))
    exact own_outV X78 hx hret hlk (hb hby d9_98) (by show _ ∧ _; rw [e78]; exact ⟨rfl, N78, f88, _, _, d0, x, ⟨f79, f80, f81, f82, f83, f84, f85, A78, f87⟩, ⟨t0.1, t0.2.1, t0.2.2⟩, ⟨rfl, rfl, k_x⟩, (by unfold own_U1; rw [if_neg hK14]; exact ⟨rfl, rfl⟩)⟩) (by decide) (by decide)
theorem ef_9u2 (m : MethodId) (x0 : Addr) (x1 : Int32) (x2 : Int32) (x3 : UInt64) : entryFrame m #[(.ref x0), (.int x1), (.int x2), (.double x3)] 7 = mkF m 0 #[.val (.ref x0), .val (.int x1), .val (.int x2), .val (.double x3), .second, .unset, .unset] [] := by first | (simp [entryFrame, mkF, argsToLocals, Value.category]; done) | rfl
def Q9u2 (Z : State) (sv pl : Int32 → Int32) (ob sa da pa : Addr) (sz : Int32) (fd fs fp : Nat → Value) (d0 d1 x : Int32) (h0 : Heap) (n0 : Nat) (v : Option Value) (h : Heap) (L : List Loc) : Prop := v = none ∧ Fr n0 L ∧ Keep h0 h [sa, da] ∧ ∃ fd' fs', ∃ r0 r1 r2 : Int32, own_S Z h ob sa da pa sz fd' fs' fp ∧ own_at sv fd' fs' 0 r0 ∧ own_at sv fd' fs' 1 r1 ∧ own_at sv fd' fs' 2 r2 ∧ own_U2 (own_K sv pl) d0 d1 x r0 r1 r2
set_option maxRecDepth 65536 in
set_option maxHeartbeats 40000000 in
theorem rm9u2 (l : Launch) (Z : State) (a0 : Array Value) (hw : ∀ d ∈ tables_1, d.before a0 Z = true) (ws : List Jvm.Cond) (sv pl : Int32 → Int32) (ob sa da pa : Addr) (sz : Int32) (fd fs fp : Nat → Value) (d0 d1 x : Int32) (h0 : Heap) (n0 : Nat) (Z0 : n0 ≤ h0.size) (Sb : own_S Z h0 ob sa da pa sz fd fs fp) (Nn : own_N n0 ob sa da pa) (hP : own_P pl fp) (t0 : own_at sv fd fs 0 d0) (t1 : own_at sv fd fs 1 d1) (k_x : own_ok x) :
    MetFree l (⟨"com/example/etsinta/etsinta/search/Best", "siftUp", "(IID)V"⟩ : MethodName) (head1 (Jvm.Cond.code (⟨"com/example/etsinta/etsinta/search/Best", "siftUp", "(IID)V"⟩ : MethodName) prog_26_method_9_code 7 none :: ws) ({ frames := 1, cells := 0, slots := 0, locals := 18 } : Room)) (fun aa_ U => aa_ = #[(.ref ob), (.int 2), (.int x), (.double (FP.i2d (sv x)))] ∧ Z.Warmed39 U.vm ∧ U.heap = h0) (fun _ _ _ _ _ => True) (fun _ U o U' => ∃ v L, o = .returned v ∧ Q9u2 Z sv pl ob sa da pa sz fd fs fp d0 d1 x h0 n0 v U'.heap L ∧ FrameEnd U o U' L ({ frames := 1, cells := 0, slots := 0, locals := 18 } : Room).cells ({ frames := 1, cells := 0, slots := 0, locals := 18 } : Room).slots) := by
  refine own_met (Q := fun v h L => Q9u2 Z sv pl ob sa da pa sz fd fs fp d0 d1 x h0 n0 v h L) (plainFor_of_name pn_0) ?_
  intro p e s m below meth c s₁ hx hby hml hret hlk hown hnm hZ X0 e0
  have N0 := Fr.nil n0
  rw [ef_9u2 m ob (2 : Int32) x (FP.i2d (sv x))]
  show OwnG p e below s _ _ _ (s₁.setTop (mkF m 0 #[.val (.ref ob), .val (.int 2), .val (.int x), .val (.double (FP.i2d (sv x))), .second, .unset, .unset] []))
  refine own_by (fun _ K => XS.iloadN X0.here hx rfl (hb hby d9_0) rfl K) ?_
  show OwnG p e below s _ _ _ (s₁.setTop (mkF m 1 _ [(.int 2)]))
  refine own_by (fun _ K => XS.istore X0.here hx rfl (hb hby d9_1) rfl (l' := #[.val (.ref ob), .val (.int 2), .val (.int x), .val (.double (FP.i2d (sv x))), .second, .val (.int 2), .unset]) rfl K) ?_
  show OwnG p e below s _ _ _ (s₁.setTop (mkF m 3 _ []))
  refine own_by (fun _ K => XS.iload X0.here hx rfl (hb hby d9_3) rfl K) ?_
  show OwnG p e below s _ _ _ (s₁.setTop (mkF m 5 _ [(.int 2)]))
  refine own_by (fun _ K => XS.ifNo X0.here hx rfl (hb hby d9_5) rfl ((if0 _ _).trans (tlt (by decide)).2.2.2) K) ?_
  show OwnG p e below s _ _ _ (s₁.setTop (mkF m 8 _ []))
  refine own_by (fun _ K => XS.aloadN X0.here hx rfl (hb hby d9_8) rfl rfl K) ?_
  show OwnG p e below s _ _ _ (s₁.setTop (mkF m 9 _ [(.ref ob)]))
  refine own_by (fun _ K => XS.iloadN X0.here hx rfl (hb hby d9_9) rfl K) ?_
  show OwnG p e below s _ _ _ (s₁.setTop (mkF m 10 _ [(.int x), (.ref ob)]))
  refine own_by (fun _ K => XS.dloadN X0.here hx rfl (hb hby d9_10) rfl K) ?_
  show OwnG p e below s _ _ _ (s₁.setTop (mkF m 11 _ [(.double (FP.i2d (sv x))), (.int x), (.ref ob)]))
  refine own_by (fun _ K => XS.aloadN X0.here hx rfl (hb hby d9_11) rfl rfl K) ?_
  show OwnG p e below s _ _ _ (s₁.setTop (mkF m 12 _ [(.ref ob), (.double (FP.i2d (sv x))), (.int x), (.ref ob)]))
  obtain ⟨T1, X1, e1, st1⟩ := getF X0 hx hZ hown (host := "") (Or.inl (own_w hw 14 rfl)) Via.refl e0 Sb.2.2.1 (g := (mkF m 12 #[.val (.ref ob), .val (.int 2), .val (.int x), .val (.double (FP.i2d (sv x))), .second, .val (.int 2), .unset] [(.ref ob), (.double (FP.i2d (sv x))), (.int x), (.ref ob)])) rfl rfl (hb hby d9_12)
  refine own_by (fun _ K => st1 _ K) ?_
  show OwnG p e below s _ _ _ (T1.setTop (mkF m 15 _ [(.ref da), (.double (FP.i2d (sv x))), (.int x), (.ref ob)]))
  refine own_by (fun _ K => XS.iload X1.here hx rfl (hb hby d9_15) rfl K) ?_
  show OwnG p e below s _ _ _ (T1.setTop (mkF m 17 _ [(.int 2), (.ref da), (.double (FP.i2d (sv x))), (.int x), (.ref ob)]))
  refine own_by (fun _ K => XS.iconst X1.here hx rfl (hb hby d9_17) K) ?_
  show OwnG p e below s _ _ _ (T1.setTop (mkF m 18 _ [(.int 1), (.int 2), (.ref da), (.double (FP.i2d (sv x))), (.int x), (.ref ob)]))
  refine own_by (fun _ K => XS.isub X1.here hx rfl (hb hby d9_18) rfl K) ?_
  show OwnG p e below s _ _ _ (T1.setTop (mkF m 19 _ [(.int 1), (.ref da), (.double (FP.i2d (sv x))), (.int x), (.ref ob)]))
  refine own_by (fun _ K => XS.iconst X1.here hx rfl (hb hby d9_19) K) ?_
  show OwnG p e below s _ _ _ (T1.setTop (mkF m 20 _ [(.int 2), (.int 1), (.ref da), (.double (FP.i2d (sv x))), (.int x), (.ref ob)]))
  refine own_by (fun _ K => XS.idiv X1.here hx rfl (hb hby d9_20) rfl (by decide) K) ?_
  show OwnG p e below s _ _ _ (T1.setTop (mkF m 21 _ [(.int 0), (.ref da), (.double (FP.i2d (sv x))), (.int x), (.ref ob)]))
  refine own_by (fun _ K => own_ldI X1 hx hZ e1 Sb.2.2.2.2.2.2.1 (j := (0 : Int32)) (i := 0) ⟨by decide, rfl, by decide⟩ (v := (.int d0)) t0.1 (g := (mkF m 21 #[.val (.ref ob), .val (.int 2), .val (.int x), .val (.double (FP.i2d (sv x))), .second, .val (.int 2), .unset] [(.int 0), (.ref da), (.double (FP.i2d (sv x))), (.int x), (.ref ob)])) rfl rfl (hb hby d9_21) _ K) ?_
  show OwnG p e below s _ _ _ (T1.setTop (mkF m 22 _ [(.int d0), (.double (FP.i2d (sv x))), (.int x), (.ref ob)]))
  refine own_by (fun _ K => XS.aloadN X1.here hx rfl (hb hby d9_22) rfl rfl K) ?_
  show OwnG p e below s _ _ _ (T1.setTop (mkF m 23 _ [(.ref ob), (.int d0), (.double (FP.i2d (sv x))), (.int x), (.ref ob)]))
  obtain ⟨T2, X2, e2, st2⟩ := getF X1 hx hZ hown (host := "") (Or.inl (own_w hw 12 rfl)) Via.refl e1 Sb.2.1 (g := (mkF m 23 #[.val (.ref ob), .val (.int 2), .val (.int x), .val (.double (FP.i2d (sv x))), .second, .val (.int 2), .unset] [(.ref ob), (.int d0), (.double (FP.i2d (sv x))), (.int x), (.ref ob)])) rfl rfl (hb hby d9_23)
  refine own_by (fun _ K => st2 _ K) ?_
  show OwnG p e below s _ _ _ (T2.setTop (mkF m 26 _ [(.ref sa), (.int d0), (.double (FP.i2d (sv x))), (.int x), (.ref ob)]))
  refine own_by (fun _ K => XS.iload X2.here hx rfl (hb hby d9_26) rfl K) ?_
  show OwnG p e below s _ _ _ (T2.setTop (mkF m 28 _ [(.int 2), (.ref sa), (.int d0), (.double (FP.i2d (sv x))), (.int x), (.ref ob)]))
  refine own_by (fun _ K => XS.iconst X2.here hx rfl (hb hby d9_28) K) ?_
  show OwnG p e below s _ _ _ (T2.setTop (mkF m 29 _ [(.int 1), (.int 2), (.ref sa), (.int d0), (.double (FP.i2d (sv x))), (.int x), (.ref ob)]))
  refine own_by (fun _ K => XS.isub X2.here hx rfl (hb hby d9_29) rfl K) ?_
  show OwnG p e below s _ _ _ (T2.setTop (mkF m 30 _ [(.int 1), (.ref sa), (.int d0), (.double (FP.i2d (sv x))), (.int x), (.ref ob)]))
  refine own_by (fun _ K => XS.iconst X2.here hx rfl (hb hby d9_30) K) ?_
  show OwnG p e below s _ _ _ (T2.setTop (mkF m 31 _ [(.int 2), (.int 1), (.ref sa), (.int d0), (.double (FP.i2d (sv x))), (.int x), (.ref ob)]))
  refine own_by (fun _ K => XS.idiv X2.here hx rfl (hb hby d9_31) rfl (by decide) K) ?_
  show OwnG p e below s _ _ _ (T2.setTop (mkF m 32 _ [(.int 0), (.ref sa), (.int d0), (.double (FP.i2d (sv x))), (.int x), (.ref ob)]))
  refine own_by (fun _ K => own_ldD X2 hx hZ e2 Sb.2.2.2.2.2.2.2.1 (j := (0 : Int32)) (i := 0) ⟨by decide, rfl, by decide⟩ (v := (.double (FP.i2d (sv d0)))) t0.2.1 (g := (mkF m 32 #[.val (.ref ob), .val (.int 2), .val (.int x), .val (.double (FP.i2d (sv x))), .second, .val (.int 2), .unset] [(.int 0), (.ref sa), (.int d0), (.double (FP.i2d (sv x))), (.int x), (.ref ob)])) rfl rfl (hb hby d9_32) _ K) ?_
  show OwnG p e below s _ _ _ (T2.setTop (mkF m 33 _ [(.double (FP.i2d (sv d0))), (.int d0), (.double (FP.i2d (sv x))), (.int x), (.ref ob)]))
  obtain ⟨cq3, q3, q3'⟩ := Exa.cell Sb.1
  obtain ⟨_, _, ⟨T3, L3, k3, n3⟩, -, X3, ⟨Lc3, hQ3, l3, y3, z3⟩, st3⟩ := X2.privateBack hx (y := (⟨"com/example/etsinta/etsinta/search/Best", "worse", "(IDID)Z"⟩ : MethodName)) hown (mvT hZ (own_w hw 69 rfl)) (mvT hZ (own_w hw 70 rfl)) (own_selp hZ (y := (⟨"com/example/etsinta/etsinta/search/Best", "worse", "(IDID)Z"⟩ : MethodName)) (own_w hw 4 rfl) (own_w hw 71 rfl) (own_w hw 70 rfl) (by decide)) (Cond.privateMethod_at (mvP hZ (own_w hw 71 rfl) (args := #[]))) (mvT hZ (own_w hw 72 rfl)) (by decide) (backOf (W := 0) (rm14 l Z a0 hw [] sv pl ob sa da pa sz fd fs fp x d0 h0 n0 Z0 ⟨Sb.1, Sb.2.1, Sb.2.2.1, Sb.2.2.2.1, Sb.2.2.2.2.1, Sb.2.2.2.2.2.1, Sb.2.2.2.2.2.2.1, Sb.2.2.2.2.2.2.2.1, Sb.2.2.2.2.2.2.2.2⟩ hP k_x t0.2.2) hZ (own_w hw 72 rfl) (own_w hw 5 rfl) (by decide) (by decide)) (g := (mkF m 33 #[.val (.ref ob), .val (.int 2), .val (.int x), .val (.double (FP.i2d (sv x))), .second, .val (.int 2), .unset] [(.double (FP.i2d (sv d0))), (.int d0), (.double (FP.i2d (sv x))), (.int x), (.ref ob)])) rfl (by rw [hml]; rfl) (Steps.refl _) (a := ob) (by rw [e2]; exact q3) q3' (argsL := [(.int x), (.double (FP.i2d (sv x))), (.int d0), (.double (FP.i2d (sv d0)))]) (rest := []) (lenOf pd_0 rfl) rfl (by show 2 * 0 + _ ≤ _; exact Nat.le_of_eq rfl) (hb hby d9_33) (fun _ _ => ⟨rfl, e2, (by decide : 0 + 0 ≤ _), (by decide : 0 + 0 ≤ _)⟩)
  dsimp only [Pt.U, Pt.locs, Pt.cells, Pt.slots] at X3 l3 y3 z3 st3 hQ3
  subst l3 y3 z3
  refine own_by (fun _ K => st3.trans K) ?_
  obtain ⟨rfl, N3q, hh3⟩ := hQ3
  have N3 := Fr.app N0 N3q
  have f4 := Sb.1
  rw [← hh3] at f4
  have f5 := Sb.2.1
  rw [← hh3] at f5
  have f6 := Sb.2.2.1
  rw [← hh3] at f6
  have f7 := Sb.2.2.2.1
  rw [← hh3] at f7
  have f8 := Sb.2.2.2.2.1
  rw [← hh3] at f8
  have f9 := Sb.2.2.2.2.2.1
  rw [← hh3] at f9
  have f10 := Sb.2.2.2.2.2.2.1
  rw [← hh3] at f10
  have f11 := Sb.2.2.2.2.2.2.2.1
  rw [← hh3] at f11
  have f12 := Sb.2.2.2.2.2.2.2.2
  rw [← hh3] at f12
  have f13 : Keep h0 T3.heap [sa, da] := by rw [hh3]; exact (Keep.refl h0 [sa, da])
  have sz3 : n0 ≤ T3.heap.size := by rw [hh3]; exact Z0
  show OwnG p e below s _ _ _ (T3.setTop (mkF m 36 _ [(.int (own_b (own_K sv pl x < own_K sv pl d0)))]))
  by_cases hK14 : own_K sv pl x < own_K sv pl d0
  · rw [own_bT hK14]
    show OwnG p e below s _ _ _ (T3.setTop (mkF m 36 #[.val (.ref ob), .val (.int 2), .val (.int x), .val (.double (FP.i2d (sv x))), .second, .val (.int 2), .unset] [(.int 1)]))
    refine own_by (fun _ K => XS.ifNo X3.here hx rfl (hb hby d9_36) rfl ((if0 _ _).trans (feq (by decide)).1) K) ?_
    show OwnG p e below s _ _ _ (T3.setTop (mkF m 39 _ []))
    refine own_by (fun _ K => XS.iload X3.here hx rfl (hb hby d9_39) rfl K) ?_
    show OwnG p e below s _ _ _ (T3.setTop (mkF m 41 _ [(.int 2)]))
    refine own_by (fun _ K => XS.iconst X3.here hx rfl (hb hby d9_41) K) ?_
    show OwnG p e below s _ _ _ (T3.setTop (mkF m 42 _ [(.int 1), (.int 2)]))
    refine own_by (fun _ K => XS.isub X3.here hx rfl (hb hby d9_42) rfl K) ?_
    show OwnG p e below s _ _ _ (T3.setTop (mkF m 43 _ [(.int 1)]))
    refine own_by (fun _ K => XS.iconst X3.here hx rfl (hb hby d9_43) K) ?_
    show OwnG p e below s _ _ _ (T3.setTop (mkF m 44 _ [(.int 2), (.int 1)]))
    refine own_by (fun _ K => XS.idiv X3.here hx rfl (hb hby d9_44) rfl (by decide) K) ?_
    show OwnG p e below s _ _ _ (T3.setTop (mkF m 45 _ [(.int 0)]))
    refine own_by (fun _ K => XS.istore X3.here hx rfl (hb hby d9_45) rfl (l' := #[.val (.ref ob), .val (.int 2), .val (.int x), .val (.double (FP.i2d (sv x))), .second, .val (.int 2), .val (.int 0)]) rfl K) ?_
    show OwnG p e below s _ _ _ (T3.setTop (mkF m 47 _ []))
    refine own_by (fun _ K => XS.aloadN X3.here hx rfl (hb hby d9_47) rfl rfl K) ?_
    show OwnG p e below s _ _ _ (T3.setTop (mkF m 48 _ [(.ref ob)]))
    obtain ⟨T15, X15, e15, st15⟩ := getF X3 hx hZ hown (host := "") (Or.inl (own_w hw 14 rfl)) Via.refl (rfl : T3.heap = T3.heap) f6 (g := (mkF m 48 #[.val (.ref ob), .val (.int 2), .val (.int x), .val (.double (FP.i2d (sv x))), .second, .val (.int 2), .val (.int 0)] [(.ref ob)])) rfl rfl (hb hby d9_48)
    refine own_by (fun _ K => st15 _ K) ?_
    show OwnG p e below s _ _ _ (T15.setTop (mkF m 51 _ [(.ref da)]))
    refine own_by (fun _ K => XS.iload X15.here hx rfl (hb hby d9_51) rfl K) ?_
    show OwnG p e below s _ _ _ (T15.setTop (mkF m 53 _ [(.int 2), (.ref da)]))
    refine own_by (fun _ K => XS.aloadN X15.here hx rfl (hb hby d9_53) rfl rfl K) ?_
    show OwnG p e below s _ _ _ (T15.setTop (mkF m 54 _ [(.ref ob), (.int 2), (.ref da)]))
    obtain ⟨T16, X16, e16, st16⟩ := getF X15 hx hZ hown (host := "") (Or.inl (own_w hw 14 rfl)) Via.refl e15 f6 (g := (mkF m 54 #[.val (.ref ob), .val (.int 2), .val (.int x), .val (.double (FP.i2d (sv x))), .second, .val (.int 2), .val (.int 0)] [(.ref ob), (.int 2), (.ref da)])) rfl rfl (hb hby d9_54)
    refine own_by (fun _ K => st16 _ K) ?_
    show OwnG p e below s _ _ _ (T16.setTop (mkF m 57 _ [(.ref da), (.int 2), (.ref da)]))
    refine own_by (fun _ K => XS.iload X16.here hx rfl (hb hby d9_57) rfl K) ?_
    show OwnG p e below s _ _ _ (T16.setTop (mkF m 59 _ [(.int 0), (.ref da), (.int 2), (.ref da)]))
    refine own_by (fun _ K => own_ldI X16 hx hZ e16 f10 (j := (0 : Int32)) (i := 0) ⟨by decide, rfl, by decide⟩ (v := (.int d0)) t0.1 (g := (mkF m 59 #[.val (.ref ob), .val (.int 2), .val (.int x), .val (.double (FP.i2d (sv x))), .second, .val (.int 2), .val (.int 0)] [(.int 0), (.ref da), (.int 2), (.ref da)])) rfl rfl (hb hby d9_59) _ K) ?_
    show OwnG p e below s _ _ _ (T16.setTop (mkF m 60 _ [(.int d0), (.int 2), (.ref da)]))
    obtain ⟨T17, h17, X17, e17, W17, A17, st17⟩ := own_stI X16 hx hZ e16 f10 (j := (2 : Int32)) (i := 2) ⟨by decide, rfl, by decide⟩ (g := (mkF m 60 #[.val (.ref ob), .val (.int 2), .val (.int x), .val (.double (FP.i2d (sv x))), .second, .val (.int 2), .val (.int 0)] [(.int d0), (.int 2), (.ref da)])) rfl rfl (hb hby d9_60)
    refine own_by (fun _ K => st17 _ K) ?_
    have f18 := Exa.wr W17 f4
    have f19 := Fld.other W17 f5 (Or.inl Nn.2.2.2.2.1)
    have f20 := Fld.other W17 f6 (Or.inl Nn.2.2.2.2.1)
    have f21 := Fld.other W17 f7 (Or.inl Nn.2.2.2.2.1)
    have f22 := Fld.other W17 f8 (Or.inl Nn.2.2.2.2.1)
    have f23 := Fld.other W17 f9 (Or.inl Nn.2.2.2.2.1)
    have f25 := OwnA.other W17 f11 Nn.2.2.2.2.2.2.1
    have f26 := OwnA.other W17 f12 (Ne.symm Nn.2.2.2.2.2.2.2.2)
    have f27 := Keep.wr f13 W17 (Or.inl (by simp))
    have N17 := Fr.snoc X17 N3 Nn.2.2.1
    have sz17 : n0 ≤ h17.size := by rw [W17.size]; exact sz3
    show OwnG p e below s _ _ _ (T17.setTop (mkF m 61 _ []))
    refine own_by (fun _ K => XS.aloadN X17.here hx rfl (hb hby d9_61) rfl rfl K) ?_
    show OwnG p e below s _ _ _ (T17.setTop (mkF m 62 _ [(.ref ob)]))
    obtain ⟨T28, X28, e28, st28⟩ := getF X17 hx hZ hown (host := "") (Or.inl (own_w hw 12 rfl)) Via.refl e17 f19 (g := (mkF m 62 #[.val (.ref ob), .val (.int 2), .val (.int x), .val (.double (FP.i2d (sv x))), .second, .val (.int 2), .val (.int 0)] [(.ref ob)])) rfl rfl (hb hby d9_62)
    refine own_by (fun _ K => st28 _ K) ?_
    show OwnG p e below s _ _ _ (T28.setTop (mkF m 65 _ [(.ref sa)]))
    refine own_by (fun _ K => XS.iload X28.here hx rfl (hb hby d9_65) rfl K) ?_
    show OwnG p e below s _ _ _ (T28.setTop (mkF m 67 _ [(.int 2), (.ref sa)]))
    refine own_by (fun _ K => XS.aloadN X28.here hx rfl (hb hby d9_67) rfl rfl K) ?_
    show OwnG p e below s _ _ _ (T28.setTop (mkF m 68 _ [(.ref ob), (.int 2), (.ref sa)]))
    obtain ⟨T29, X29, e29, st29⟩ := getF X28 hx hZ hown (host := "") (Or.inl (own_w hw 12 rfl)) Via.refl e28 f19 (g := (mkF m 68 #[.val (.ref ob), .val (.int 2), .val (.int x), .val (.double (FP.i2d (sv x))), .second, .val (.int 2), .val (.int 0)] [(.ref ob), (.int 2), (.ref sa)])) rfl rfl (hb hby d9_68)
    refine own_by (fun _ K => st29 _ K) ?_
    show OwnG p e below s _ _ _ (T29.setTop (mkF m 71 _ [(.ref sa), (.int 2), (.ref sa)]))
    refine own_by (fun _ K => XS.iload X29.here hx rfl (hb hby d9_71) rfl K) ?_
    show OwnG p e below s _ _ _ (T29.setTop (mkF m 73 _ [(.int 0), (.ref sa), (.int 2), (.ref sa)]))
    refine own_by (fun _ K => own_ldD X29 hx hZ e29 f25 (j := (0 : Int32)) (i := 0) ⟨by decide, rfl, by decide⟩ (v := (.double (FP.i2d (sv d0)))) t0.2.1 (g := (mkF m 73 #[.val (.ref ob), .val (.int 2), .val (.int x), .val (.double (FP.i2d (sv x))), .second, .val (.int 2), .val (.int 0)] [(.int 0), (.ref sa), (.int 2), (.ref sa)])) rfl rfl (hb hby d9_73) _ K) ?_
    show OwnG p e below s _ _ _ (T29.setTop (mkF m 74 _ [(.double (FP.i2d (sv d0))), (.int 2), (.ref sa)]))
    obtain ⟨T30, h30, X30, e30, W30, A30, st30⟩ := own_stD X29 hx hZ e29 f25 (j := (2 : Int32)) (i := 2) ⟨by decide, rfl, by decide⟩ (g := (mkF m 74 #[.val (.ref ob), .val (.int 2), .val (.int x), .val (.double (FP.i2d (sv x))), .second, .val (.int 2), .val (.int 0)] [(.double (FP.i2d (sv d0))), (.int 2), (.ref sa)])) rfl rfl (hb hby d9_74)
    refine own_by (fun _ K => st30 _ K) ?_
    have f31 := Exa.wr W30 f18
    have f32 := Fld.other W30 f19 (Or.inl Nn.2.2.2.1)
    have f33 := Fld.other W30 f20 (Or.inl Nn.2.2.2.1)
    have f34 := Fld.other W30 f21 (Or.inl Nn.2.2.2.1)
    have f35 := Fld.other W30 f22 (Or.inl Nn.2.2.2.1)
    have f36 := Fld.other W30 f23 (Or.inl Nn.2.2.2.1)
    have f37 := OwnA.other W30 A17 (Ne.symm Nn.2.2.2.2.2.2.1)
    have f39 := OwnA.other W30 f26 (Ne.symm Nn.2.2.2.2.2.2.2.1)
    have f40 := Keep.wr f27 W30 (Or.inl (by simp))
    have N30 := Fr.snoc X30 N17 Nn.2.1
    have sz30 : n0 ≤ h30.size := by rw [W30.size]; exact sz17
    show OwnG p e below s _ _ _ (T30.setTop (mkF m 75 _ []))
    refine own_by (fun _ K => XS.iload X30.here hx rfl (hb hby d9_75) rfl K) ?_
    show OwnG p e below s _ _ _ (T30.setTop (mkF m 77 _ [(.int 0)]))
    refine own_by (fun _ K => XS.istore X30.here hx rfl (hb hby d9_77) rfl (l' := #[.val (.ref ob), .val (.int 2), .val (.int x), .val (.double (FP.i2d (sv x))), .second, .val (.int 0), .val (.int 0)]) rfl K) ?_
    show OwnG p e below s _ _ _ (T30.setTop (mkF m 79 _ []))
    refine own_by (fun _ K => XS.goto X30.here hx rfl (pc0 := 79) (pc' := 3) rfl (hb hby d9_79) (by decide) (by decide) K) ?_
    show OwnG p e below s _ _ _ (T30.setTop (mkF m 3 _ []))
    refine own_by (fun _ K => XS.iload X30.here hx rfl (hb hby d9_3) rfl K) ?_
    show OwnG p e below s _ _ _ (T30.setTop (mkF m 5 _ [(.int 0)]))
    refine own_by (fun _ K => XS.ifYes X30.here hx rfl (pc0 := 5) (pc' := 82) rfl (hb hby d9_5) rfl ((if0 _ _).trans (flt (by decide)).2.2.2) (by decide) (by decide) K) ?_
    show OwnG p e below s _ _ _ (T30.setTop (mkF m 82 _ []))
    refine own_by (fun _ K => XS.aloadN X30.here hx rfl (hb hby d9_82) rfl rfl K) ?_
    show OwnG p e below s _ _ _ (T30.setTop (mkF m 83 _ [(.ref ob)]))
    obtain ⟨T41, X41, e41, st41⟩ := getF X30 hx hZ hown (host := "") (Or.inl (own_w hw 14 rfl)) Via.refl e30 f33 (g := (mkF m 83 #[.val (.ref ob), .val (.int 2), .val (.int x), .val (.double (FP.i2d (sv x))), .second, .val (.int 0), .val (.int 0)] [(.ref ob)])) rfl rfl (hb hby d9_83)
    refine own_by (fun _ K => st41 _ K) ?_
    show OwnG p e below s _ _ _ (T41.setTop (mkF m 86 _ [(.ref da)]))
    refine own_by (fun _ K => XS.iload X41.here hx rfl (hb hby d9_86) rfl K) ?_
    show OwnG p e below s _ _ _ (T41.setTop (mkF m 88 _ [(.int 0), (.ref da)]))
    refine own_by (fun _ K => XS.iloadN X41.here hx rfl (hb hby d9_88) rfl K) ?_
    show OwnG p e below s _ _ _ (T41.setTop (mkF m 89 _ [(.int x), (.int 0), (.ref da)]))
    obtain ⟨T42, h42, X42, e42, W42, A42, st42⟩ := own_stI X41 hx hZ e41 f37 (j := (0 : Int32)) (i := 0) ⟨by decide, rfl, by decide⟩ (g := (mkF m 89 #[.val (.ref ob), .val (.int 2), .val (.int x), .val (.double (FP.i2d (sv x))), .second, .val (.int 0), .val (.int 0)] [(.int x), (.int 0), (.ref da)])) rfl rfl (hb hby d9_89)
    refine own_by (fun _ K => st42 _ K) ?_
    have f43 := Exa.wr W42 f31
    have f44 := Fld.other W42 f32 (Or.inl Nn.2.2.2.2.1)
    have f45 := Fld.other W42 f33 (Or.inl Nn.2.2.2.2.1)
    have f46 := Fld.other W42 f34 (Or.inl Nn.2.2.2.2.1)
    have f47 := Fld.other W42 f35 (Or.inl Nn.2.2.2.2.1)
    have f48 := Fld.other W42 f36 (Or.inl Nn.2.2.2.2.1)
    have f50 := OwnA.other W42 A30 Nn.2.2.2.2.2.2.1
    have f51 := OwnA.other W42 f39 (Ne.symm Nn.2.2.2.2.2.2.2.2)
    have f52 := Keep.wr f40 W42 (Or.inl (by simp))
    have N42 := Fr.snoc X42 N30 Nn.2.2.1
    have sz42 : n0 ≤ h42.size := by rw [W42.size]; exact sz30
    show OwnG p e below s _ _ _ (T42.setTop (mkF m 90 _ []))
    refine own_by (fun _ K => XS.aloadN X42.here hx rfl (hb hby d9_90) rfl rfl K) ?_
    show OwnG p e below s _ _ _ (T42.setTop (mkF m 91 _ [(.ref ob)]))
    obtain ⟨T53, X53, e53, st53⟩ := getF X42 hx hZ hown (host := "") (Or.inl (own_w hw 12 rfl)) Via.refl e42 f44 (g := (mkF m 91 #[.val (.ref ob), .val (.int 2), .val (.int x), .val (.double (FP.i2d (sv x))), .second, .val (.int 0), .val (.int 0)] [(.ref ob)])) rfl rfl (hb hby d9_91)
    refine own_by (fun _ K => st53 _ K) ?_
    show OwnG p e below s _ _ _ (T53.setTop (mkF m 94 _ [(.ref sa)]))
    refine own_by (fun _ K => XS.iload X53.here hx rfl (hb hby d9_94) rfl K) ?_
    show OwnG p e below s _ _ _ (T53.setTop (mkF m 96 _ [(.int 0), (.ref sa)]))
    refine own_by (fun _ K => XS.dloadN X53.here hx rfl (hb hby d9_96) rfl K) ?_
    show OwnG p e below s _ _ _ (T53.setTop (mkF m 97 _ [(.double (FP.i2d (sv x))), (.int 0), (.ref sa)]))
    obtain ⟨T54, h54, X54, e54, W54, A54, st54⟩ := own_stD X53 hx hZ e53 f50 (j := (0 : Int32)) (i := 0) ⟨by decide, rfl, by decide⟩ (g := (mkF m 97 #[.val (.ref ob), .val (.int 2), .val (.int x), .val (.double (FP.i2d (sv x))), .second, .val (.int 0), .val (.int 0)] [(.double (FP.i2d (sv x))), (.int 0), (.ref sa)])) rfl rfl (hb hby d9_97)
    refine own_by (fun _ K => st54 _ K) ?_
    have f55 := Exa.wr W54 f43
    have f56 := Fld.other W54 f44 (Or.inl Nn.2.2.2.1)
    have f57 := Fld.other W54 f45 (Or.inl Nn.2.2.2.1)
    have f58 := Fld.other W54 f46 (Or.inl Nn.2.2.2.1)
    have f59 := Fld.other W54 f47 (Or.inl Nn.2.2.2.1)
    have f60 := Fld.other W54 f48 (Or.inl Nn.2.2.2.1)
    have f61 := OwnA.other W54 A42 (Ne.symm Nn.2.2.2.2.2.2.1)
    have f63 := OwnA.other W54 f51 (Ne.symm Nn.2.2.2.2.2.2.2.1)
    have f64 := Keep.wr f52 W54 (Or.inl (by simp))
    have N54 := Fr.snoc X54 N42 Nn.2.1
    have sz54 : n0 ≤ h54.size := by rw [W54.size]; exact sz42
    show OwnG p e below s _ _ _ (T54.setTop (mkF m 98 _ []))
    exact own_outV X54 hx hret hlk (hb hby d9_98) (by show _ ∧ _; rw [e54]; exact ⟨rfl, N54, f64, _, _, x, d1, d0, ⟨f55, f56, f57, f58, f59, f60, f61, A54, f63⟩, ⟨rfl, rfl, k_x⟩, ⟨t1.1, t1.2.1, t1.2.2⟩, ⟨rfl, rfl, t0.2.2⟩, (by unfold own_U2; rw [if_pos hK14]; exact ⟨rfl, rfl, rfl⟩)⟩) (by decide) (by decide)
  · rw [own_bF hK14]
    show OwnG p e below s _ _ _ (T3.setTop (mkF m 36 #[.val (.ref ob), .val (.int 2), .val (.int x), .val (.double (FP.i2d (sv x))), .second, .val (.int 2), .unset] [(.int 0)]))
    refine own_by (fun _ K => XS.ifYes X3.here hx rfl (pc0 := 36) (pc' := 82) rfl (hb hby d9_36) rfl ((if0 _ _).trans (teq (by decide)).1) (by decide) (by decide) K) ?_
    show OwnG p e below s _ _ _ (T3.setTop (mkF m 82 _ []))
    refine own_by (fun _ K => XS.aloadN X3.here hx rfl (hb hby d9_82) rfl rfl K) ?_
    show OwnG p e below s _ _ _ (T3.setTop (mkF m 83 _ [(.ref ob)]))
    obtain ⟨T65, X65, e65, st65⟩ := getF X3 hx hZ hown (host := "") (Or.inl (own_w hw 14 rfl)) Via.refl (rfl : T3.heap = T3.heap) f6 (g := (mkF m 83 #[.val (.ref ob), .val (.int 2), .val (.int x), .val (.double (FP.i2d (sv x))), .second, .val (.int 2), .unset] [(.ref ob)])) rfl rfl (hb hby d9_83)
    refine own_by (fun _ K => st65 _ K) ?_
    show OwnG p e below s _ _ _ (T65.setTop (mkF m 86 _ [(.ref da)]))
    refine own_by (fun _ K => XS.iload X65.here hx rfl (hb hby d9_86) rfl K) ?_
    show OwnG p e below s _ _ _ (T65.setTop (mkF m 88 _ [(.int 2), (.ref da)]))
    refine own_by (fun _ K => XS.iloadN X65.here hx rfl (hb hby d9_88) rfl K) ?_
    show OwnG p e below s _ _ _ (T65.setTop (mkF m 89 _ [(.int x), (.int 2), (.ref da)]))
    obtain ⟨T66, h66, X66, e66, W66, A66, st66⟩ := own_stI X65 hx hZ e65 f10 (j := (2 : Int32)) (i := 2) ⟨by decide, rfl, by decide⟩ (g := (mkF m 89 #[.val (.ref ob), .val (.int 2), .val (.int x), .val (.double (FP.i2d (sv x))), .second, .val (.int 2), .unset] [(.int x), (.int 2), (.ref da)])) rfl rfl (hb hby d9_89)
    refine own_by (fun _ K => st66 _ K) ?_
    have f67 := Exa.wr W66 f4
    have f68 := Fld.other W66 f5 (Or.inl Nn.2.2.2.2.1)
    have f69 := Fld.other W66 f6 (Or.inl Nn.2.2.2.2.1)
    have f70 := Fld.other W66 f7 (Or.inl Nn.2.2.2.2.1)
    have f71 := Fld.other W66 f8 (Or.inl Nn.2.2.2.2.1)
    have f72 := Fld.other W66 f9 (Or.inl Nn.2.2.2.2.1)
    have f74 := OwnA.other W66 f11 Nn.2.2.2.2.2.2.1
    have f75 := OwnA.other W66 f12 (Ne.symm Nn.2.2.2.2.2.2.2.2)
    have f76 := Keep.wr f13 W66 (Or.inl (by simp))
    have N66 := Fr.snoc X66 N3 Nn.2.2.1
    have sz66 : n0 ≤ h66.size := by rw [W66.size]; exact sz3
    show OwnG p e below s _ _ _ (T66.setTop (mkF m 90 _ []))
    refine own_by (fun _ K => XS.aloadN X66.here hx rfl (hb hby d9_90) rfl rfl K) ?_
    show OwnG p e below s _ _ _ (T66.setTop (mkF m 91 _ [(.ref ob)]))
    obtain ⟨T77, X77, e77, st77⟩ := getF X66 hx hZ hown (host := "") (Or.inl (own_w hw 12 rfl)) Via.refl e66 f68 (g := (mkF m 91 #[.val (.ref ob), .val (.int 2), .val (.int x), .val (.double (FP.i2d (sv x))), .second, .val (.int 2), .unset] [(.ref ob)])) rfl rfl (hb hby d9_91)
    refine own_by (fun _ K => st77 _ K) ?_
    show OwnG p e below s _ _ _ (T77.setTop (mkF m 94 _ [(.ref sa)]))
    refine own_by (fun _ K => XS.iload X77.here hx rfl (hb hby d9_94) rfl K) ?_
    show OwnG p e below s _ _ _ (T77.setTop (mkF m 96 _ [(.int 2), (.ref sa)]))
    refine own_by (fun _ K => XS.dloadN X77.here hx rfl (hb hby d9_96) rfl K) ?_
    show OwnG p e below s _ _ _ (T77.setTop (mkF m 97 _ [(.double (FP.i2d (sv x))), (.int 2), (.ref sa)]))
    obtain ⟨T78, h78, X78, e78, W78, A78, st78⟩ := own_stD X77 hx hZ e77 f74 (j := (2 : Int32)) (i := 2) ⟨by decide, rfl, by decide⟩ (g := (mkF m 97 #[.val (.ref ob), .val (.int 2), .val (.int x), .val (.double (FP.i2d (sv x))), .second, .val (.int 2), .unset] [(.double (FP.i2d (sv x))), (.int 2), (.ref sa)])) rfl rfl (hb hby d9_97)
    refine own_by (fun _ K => st78 _ K) ?_
    have f79 := Exa.wr W78 f67
    have f80 := Fld.other W78 f68 (Or.inl Nn.2.2.2.1)
    have f81 := Fld.other W78 f69 (Or.inl Nn.2.2.2.1)
    have f82 := Fld.other W78 f70 (Or.inl Nn.2.2.2.1)
    have f83 := Fld.other W78 f71 (Or.inl Nn.2.2.2.1)
    have f84 := Fld.other W78 f72 (Or.inl Nn.2.2.2.1)
    have f85 := OwnA.other W78 A66 (Ne.symm Nn.2.2.2.2.2.2.1)
    have f87 := OwnA.other W78 f75 (Ne.symm Nn.2.2.2.2.2.2.2.1)
    have f88 := Keep.wr f76 W78 (Or.inl (by simp))
    have N78 := Fr.snoc X78 N66 Nn.2.1
    have sz78 : n0 ≤ h78.size := by rw [W78.size]; exact sz66
    show OwnG p e below s _ _ _ (T78.setTop (mkF m 98 _ []))
    exact own_outV X78 hx hret hlk (hb hby d9_98) (by show _ ∧ _; rw [e78]; exact ⟨rfl, N78, f88, _, _, d0, d1, x, ⟨f79, f80, f81, f82, f83, f84, f85, A78, f87⟩, ⟨t0.1, t0.2.1, t0.2.2⟩, ⟨t1.1, t1.2.1, t1.2.2⟩, ⟨rfl, rfl, k_x⟩, (by unfold own_U2; rw [if_neg hK14]; exact ⟨rfl, rfl, rfl⟩)⟩) (by decide) (by decide)
theorem ef_9u3 (m : MethodId) (x0 : Addr) (x1 : Int32) (x2 : Int32) (x3 : UInt64) : entryFrame m #[(.ref x0), (.int x1), (.int x2), (.double x3)] 7 = mkF m 0 #[.val (.ref x0), .val (.int x1), .val (.int x2), .val (.double x3), .second, .unset, .unset] [] := by first | (simp [entryFrame, mkF, argsToLocals, Value.category]; done) | rfl
def Q9u3 (Z : State) (sv pl : Int32 → Int32) (ob sa da pa : Addr) (sz : Int32) (fd fs fp : Nat → Value) (d0 d1 d2 x : Int32) (h0 : Heap) (n0 : Nat) (v : Option Value) (h : Heap) (L : List Loc) : Prop := v = none ∧ Fr n0 L ∧ Keep h0 h [sa, da] ∧ ∃ fd' fs', ∃ r0 r1 r2 r3 : Int32, own_S Z h ob sa da pa sz fd' fs' fp ∧ own_at sv fd' fs' 0 r0 ∧ own_at sv fd' fs' 1 r1 ∧ own_at sv fd' fs' 2 r2 ∧ own_at sv fd' fs' 3 r3 ∧ own_U3 (own_K sv pl) d0 d1 d2 x r0 r1 r2 r3
set_option maxRecDepth 65536 in
set_option maxHeartbeats 40000000 in
theorem rm9u3 (l : Launch) (Z : State) (a0 : Array Value) (hw : ∀ d ∈ tables_1, d.before a0 Z = true) (ws : List Jvm.Cond) (sv pl : Int32 → Int32) (ob sa da pa : Addr) (sz : Int32) (fd fs fp : Nat → Value) (d0 d1 d2 x : Int32) (h0 : Heap) (n0 : Nat) (Z0 : n0 ≤ h0.size) (Sb : own_S Z h0 ob sa da pa sz fd fs fp) (Nn : own_N n0 ob sa da pa) (hP : own_P pl fp) (t0 : own_at sv fd fs 0 d0) (t1 : own_at sv fd fs 1 d1) (t2 : own_at sv fd fs 2 d2) (k_x : own_ok x) :
    MetFree l (⟨"com/example/etsinta/etsinta/search/Best", "siftUp", "(IID)V"⟩ : MethodName) (head1 (Jvm.Cond.code (⟨"com/example/etsinta/etsinta/search/Best", "siftUp", "(IID)V"⟩ : MethodName) prog_26_method_9_code 7 none :: ws) ({ frames := 1, cells := 0, slots := 0, locals := 18 } : Room)) (fun aa_ U => aa_ = #[(.ref ob), (.int 3), (.int x), (.double (FP.i2d (sv x)))] ∧ Z.Warmed39 U.vm ∧ U.heap = h0) (fun _ _ _ _ _ => True) (fun _ U o U' => ∃ v L, o = .returned v ∧ Q9u3 Z sv pl ob sa da pa sz fd fs fp d0 d1 d2 x h0 n0 v U'.heap L ∧ FrameEnd U o U' L ({ frames := 1, cells := 0, slots := 0, locals := 18 } : Room).cells ({ frames := 1, cells := 0, slots := 0, locals := 18 } : Room).slots) := by
  refine own_met (Q := fun v h L => Q9u3 Z sv pl ob sa da pa sz fd fs fp d0 d1 d2 x h0 n0 v h L) (plainFor_of_name pn_0) ?_
  intro p e s m below meth c s₁ hx hby hml hret hlk hown hnm hZ X0 e0
  have N0 := Fr.nil n0
  rw [ef_9u3 m ob (3 : Int32) x (FP.i2d (sv x))]
  show OwnG p e below s _ _ _ (s₁.setTop (mkF m 0 #[.val (.ref ob), .val (.int 3), .val (.int x), .val (.double (FP.i2d (sv x))), .second, .unset, .unset] []))
  refine own_by (fun _ K => XS.iloadN X0.here hx rfl (hb hby d9_0) rfl K) ?_
  show OwnG p e below s _ _ _ (s₁.setTop (mkF m 1 _ [(.int 3)]))
  refine own_by (fun _ K => XS.istore X0.here hx rfl (hb hby d9_1) rfl (l' := #[.val (.ref ob), .val (.int 3), .val (.int x), .val (.double (FP.i2d (sv x))), .second, .val (.int 3), .unset]) rfl K) ?_
  show OwnG p e below s _ _ _ (s₁.setTop (mkF m 3 _ []))
  refine own_by (fun _ K => XS.iload X0.here hx rfl (hb hby d9_3) rfl K) ?_
  show OwnG p e below s _ _ _ (s₁.setTop (mkF m 5 _ [(.int 3)]))
  refine own_by (fun _ K => XS.ifNo X0.here hx rfl (hb hby d9_5) rfl ((if0 _ _).trans (tlt (by decide)).2.2.2) K) ?_
  show OwnG p e below s _ _ _ (s₁.setTop (mkF m 8 _ []))
  refine own_by (fun _ K => XS.aloadN X0.here hx rfl (hb hby d9_8) rfl rfl K) ?_
  show OwnG p e below s _ _ _ (s₁.setTop (mkF m 9 _ [(.ref ob)]))
  refine own_by (fun _ K => XS.iloadN X0.here hx rfl (hb hby d9_9) rfl K) ?_
  show OwnG p e below s _ _ _ (s₁.setTop (mkF m 10 _ [(.int x), (.ref ob)]))
  refine own_by (fun _ K => XS.dloadN X0.here hx rfl (hb hby d9_10) rfl K) ?_
  show OwnG p e below s _ _ _ (s₁.setTop (mkF m 11 _ [(.double (FP.i2d (sv x))), (.int x), (.ref ob)]))
  refine own_by (fun _ K => XS.aloadN X0.here hx rfl (hb hby d9_11) rfl rfl K) ?_
  show OwnG p e below s _ _ _ (s₁.setTop (mkF m 12 _ [(.ref ob), (.double (FP.i2d (sv x))), (.int x), (.ref ob)]))
  obtain ⟨T1, X1, e1, st1⟩ := getF X0 hx hZ hown (host := "") (Or.inl (own_w hw 14 rfl)) Via.refl e0 Sb.2.2.1 (g := (mkF m 12 #[.val (.ref ob), .val (.int 3), .val (.int x), .val (.double (FP.i2d (sv x))), .second, .val (.int 3), .unset] [(.ref ob), (.double (FP.i2d (sv x))), (.int x), (.ref ob)])) rfl rfl (hb hby d9_12)
  refine own_by (fun _ K => st1 _ K) ?_
  show OwnG p e below s _ _ _ (T1.setTop (mkF m 15 _ [(.ref da), (.double (FP.i2d (sv x))), (.int x), (.ref ob)]))
  refine own_by (fun _ K => XS.iload X1.here hx rfl (hb hby d9_15) rfl K) ?_
  show OwnG p e below s _ _ _ (T1.setTop (mkF m 17 _ [(.int 3), (.ref da), (.double (FP.i2d (sv x))), (.int x), (.ref ob)]))
  refine own_by (fun _ K => XS.iconst X1.here hx rfl (hb hby d9_17) K) ?_
  show OwnG p e below s _ _ _ (T1.setTop (mkF m 18 _ [(.int 1), (.int 3), (.ref da), (.double (FP.i2d (sv x))), (.int x), (.ref ob)]))
  refine own_by (fun _ K => XS.isub X1.here hx rfl (hb hby d9_18) rfl K) ?_
  show OwnG p e below s _ _ _ (T1.setTop (mkF m 19 _ [(.int 2), (.ref da), (.double (FP.i2d (sv x))), (.int x), (.ref ob)]))
  refine own_by (fun _ K => XS.iconst X1.here hx rfl (hb hby d9_19) K) ?_
  show OwnG p e below s _ _ _ (T1.setTop (mkF m 20 _ [(.int 2), (.int 2), (.ref da), (.double (FP.i2d (sv x))), (.int x), (.ref ob)]))
  refine own_by (fun _ K => XS.idiv X1.here hx rfl (hb hby d9_20) rfl (by decide) K) ?_
  show OwnG p e below s _ _ _ (T1.setTop (mkF m 21 _ [(.int 1), (.ref da), (.double (FP.i2d (sv x))), (.int x), (.ref ob)]))
  refine own_by (fun _ K => own_ldI X1 hx hZ e1 Sb.2.2.2.2.2.2.1 (j := (1 : Int32)) (i := 1) ⟨by decide, rfl, by decide⟩ (v := (.int d1)) t1.1 (g := (mkF m 21 #[.val (.ref ob), .val (.int 3), .val (.int x), .val (.double (FP.i2d (sv x))), .second, .val (.int 3), .unset] [(.int 1), (.ref da), (.double (FP.i2d (sv x))), (.int x), (.ref ob)])) rfl rfl (hb hby d9_21) _ K) ?_
  show OwnG p e below s _ _ _ (T1.setTop (mkF m 22 _ [(.int d1), (.double (FP.i2d (sv x))), (.int x), (.ref ob)]))
  refine own_by (fun _ K => XS.aloadN X1.here hx rfl (hb hby d9_22) rfl rfl K) ?_
  show OwnG p e below s _ _ _ (T1.setTop (mkF m 23 _ [(.ref ob), (.int d1), (.double (FP.i2d (sv x))), (.int x), (.ref ob)]))
  obtain ⟨T2, X2, e2, st2⟩ := getF X1 hx hZ hown (host := "") (Or.inl (own_w hw 12 rfl)) Via.refl e1 Sb.2.1 (g := (mkF m 23 #[.val (.ref ob), .val (.int 3), .val (.int x), .val (.double (FP.i2d (sv x))), .second, .val (.int 3), .unset] [(.ref ob), (.int d1), (.double (FP.i2d (sv x))), (.int x), (.ref ob)])) rfl rfl (hb hby d9_23)
  refine own_by (fun _ K => st2 _ K) ?_
  show OwnG p e below s _ _ _ (T2.setTop (mkF m 26 _ [(.ref sa), (.int d1), (.double (FP.i2d (sv x))), (.int x), (.ref ob)]))
  refine own_by (fun _ K => XS.iload X2.here hx rfl (hb hby d9_26) rfl K) ?_
  show OwnG p e below s _ _ _ (T2.setTop (mkF m 28 _ [(.int 3), (.ref sa), (.int d1), (.double (FP.i2d (sv x))), (.int x), (.ref ob)]))
  refine own_by (fun _ K => XS.iconst X2.here hx rfl (hb hby d9_28) K) ?_
  show OwnG p e below s _ _ _ (T2.setTop (mkF m 29 _ [(.int 1), (.int 3), (.ref sa), (.int d1), (.double (FP.i2d (sv x))), (.int x), (.ref ob)]))
  refine own_by (fun _ K => XS.isub X2.here hx rfl (hb hby d9_29) rfl K) ?_
  show OwnG p e below s _ _ _ (T2.setTop (mkF m 30 _ [(.int 2), (.ref sa), (.int d1), (.double (FP.i2d (sv x))), (.int x), (.ref ob)]))
  refine own_by (fun _ K => XS.iconst X2.here hx rfl (hb hby d9_30) K) ?_
  show OwnG p e below s _ _ _ (T2.setTop (mkF m 31 _ [(.int 2), (.int 2), (.ref sa), (.int d1), (.double (FP.i2d (sv x))), (.int x), (.ref ob)]))
  refine own_by (fun _ K => XS.idiv X2.here hx rfl (hb hby d9_31) rfl (by decide) K) ?_
  show OwnG p e below s _ _ _ (T2.setTop (mkF m 32 _ [(.int 1), (.ref sa), (.int d1), (.double (FP.i2d (sv x))), (.int x), (.ref ob)]))
  refine own_by (fun _ K => own_ldD X2 hx hZ e2 Sb.2.2.2.2.2.2.2.1 (j := (1 : Int32)) (i := 1) ⟨by decide, rfl, by decide⟩ (v := (.double (FP.i2d (sv d1)))) t1.2.1 (g := (mkF m 32 #[.val (.ref ob), .val (.int 3), .val (.int x), .val (.double (FP.i2d (sv x))), .second, .val (.int 3), .unset] [(.int 1), (.ref sa), (.int d1), (.double (FP.i2d (sv x))), (.int x), (.ref ob)])) rfl rfl (hb hby d9_32) _ K) ?_
  show OwnG p e below s _ _ _ (T2.setTop (mkF m 33 _ [(.double (FP.i2d (sv d1))), (.int d1), (.double (FP.i2d (sv x))), (.int x), (.ref ob)]))
  obtain ⟨cq3, q3, q3'⟩ := Exa.cell Sb.1
  obtain ⟨_, _, ⟨T3, L3, k3, n3⟩, -, X3, ⟨Lc3, hQ3, l3, y3, z3⟩, st3⟩ := X2.privateBack hx (y := (⟨"com/example/etsinta/etsinta/search/Best", "worse", "(IDID)Z"⟩ : MethodName)) hown (mvT hZ (own_w hw 69 rfl)) (mvT hZ (own_w hw 70 rfl)) (own_selp hZ (y := (⟨"com/example/etsinta/etsinta/search/Best", "worse", "(IDID)Z"⟩ : MethodName)) (own_w hw 4 rfl) (own_w hw 71 rfl) (own_w hw 70 rfl) (by decide)) (Cond.privateMethod_at (mvP hZ (own_w hw 71 rfl) (args := #[]))) (mvT hZ (own_w hw 72 rfl)) (by decide) (backOf (W := 0) (rm14 l Z a0 hw [] sv pl ob sa da pa sz fd fs fp x d1 h0 n0 Z0 ⟨Sb.1, Sb.2.1, Sb.2.2.1, Sb.2.2.2.1, Sb.2.2.2.2.1, Sb.2.2.2.2.2.1, Sb.2.2.2.2.2.2.1, Sb.2.2.2.2.2.2.2.1, Sb.2.2.2.2.2.2.2.2⟩ hP k_x t1.2.2) hZ (own_w hw 72 rfl) (own_w hw 5 rfl) (by decide) (by decide)) (g := (mkF m 33 #[.val (.ref ob), .val (.int 3), .val (.int x), .val (.double (FP.i2d (sv x))), .second, .val (.int 3), .unset] [(.double (FP.i2d (sv d1))), (.int d1), (.double (FP.i2d (sv x))), (.int x), (.ref ob)])) rfl (by rw [hml]; rfl) (Steps.refl _) (a := ob) (by rw [e2]; exact q3) q3' (argsL := [(.int x), (.double (FP.i2d (sv x))), (.int d1), (.double (FP.i2d (sv d1)))]) (rest := []) (lenOf pd_0 rfl) rfl (by show 2 * 0 + _ ≤ _; exact Nat.le_of_eq rfl) (hb hby d9_33) (fun _ _ => ⟨rfl, e2, (by decide : 0 + 0 ≤ _), (by decide : 0 + 0 ≤ _)⟩)
  dsimp only [Pt.U, Pt.locs, Pt.cells, Pt.slots] at X3 l3 y3 z3 st3 hQ3
  subst l3 y3 z3
  refine own_by (fun _ K => st3.trans K) ?_
  obtain ⟨rfl, N3q, hh3⟩ := hQ3
  have N3 := Fr.app N0 N3q
  have f4 := Sb.1
  rw [← hh3] at f4
  have f5 := Sb.2.1
  rw [← hh3] at f5
  have f6 := Sb.2.2.1
  rw [← hh3] at f6
  have f7 := Sb.2.2.2.1
  rw [← hh3] at f7
  have f8 := Sb.2.2.2.2.1
  rw [← hh3] at f8
  have f9 := Sb.2.2.2.2.2.1
  rw [← hh3] at f9
  have f10 := Sb.2.2.2.2.2.2.1
  rw [← hh3] at f10
  have f11 := Sb.2.2.2.2.2.2.2.1
  rw [← hh3] at f11
  have f12 := Sb.2.2.2.2.2.2.2.2
  rw [← hh3] at f12
  have f13 : Keep h0 T3.heap [sa, da] := by rw [hh3]; exact (Keep.refl h0 [sa, da])
  have sz3 : n0 ≤ T3.heap.size := by rw [hh3]; exact Z0
  show OwnG p e below s _ _ _ (T3.setTop (mkF m 36 _ [(.int (own_b (own_K sv pl x < own_K sv pl d1)))]))
  by_cases hK14 : own_K sv pl x < own_K sv pl d1
  · rw [own_bT hK14]
    show OwnG p e below s _ _ _ (T3.setTop (mkF m 36 #[.val (.ref ob), .val (.int 3), .val (.int x), .val (.double (FP.i2d (sv x))), .second, .val (.int 3), .unset] [(.int 1)]))
    refine own_by (fun _ K => XS.ifNo X3.here hx rfl (hb hby d9_36) rfl ((if0 _ _).trans (feq (by decide)).1) K) ?_
    show OwnG p e below s _ _ _ (T3.setTop (mkF m 39 _ []))
    refine own_by (fun _ K => XS.iload X3.here hx rfl (hb hby d9_39) rfl K) ?_
    show OwnG p e below s _ _ _ (T3.setTop (mkF m 41 _ [(.int 3)]))
    refine own_by (fun _ K => XS.iconst X3.here hx rfl (hb hby d9_41) K) ?_
    show OwnG p e below s _ _ _ (T3.setTop (mkF m 42 _ [(.int 1), (.int 3)]))
    refine own_by (fun _ K => XS.isub X3.here hx rfl (hb hby d9_42) rfl K) ?_
    show OwnG p e below s _ _ _ (T3.setTop (mkF m 43 _ [(.int 2)]))
    refine own_by (fun _ K => XS.iconst X3.here hx rfl (hb hby d9_43) K) ?_
    show OwnG p e below s _ _ _ (T3.setTop (mkF m 44 _ [(.int 2), (.int 2)]))
    refine own_by (fun _ K => XS.idiv X3.here hx rfl (hb hby d9_44) rfl (by decide) K) ?_
    show OwnG p e below s _ _ _ (T3.setTop (mkF m 45 _ [(.int 1)]))
    refine own_by (fun _ K => XS.istore X3.here hx rfl (hb hby d9_45) rfl (l' := #[.val (.ref ob), .val (.int 3), .val (.int x), .val (.double (FP.i2d (sv x))), .second, .val (.int 3), .val (.int 1)]) rfl K) ?_
    show OwnG p e below s _ _ _ (T3.setTop (mkF m 47 _ []))
    refine own_by (fun _ K => XS.aloadN X3.here hx rfl (hb hby d9_47) rfl rfl K) ?_
    show OwnG p e below s _ _ _ (T3.setTop (mkF m 48 _ [(.ref ob)]))
    obtain ⟨T15, X15, e15, st15⟩ := getF X3 hx hZ hown (host := "") (Or.inl (own_w hw 14 rfl)) Via.refl (rfl : T3.heap = T3.heap) f6 (g := (mkF m 48 #[.val (.ref ob), .val (.int 3), .val (.int x), .val (.double (FP.i2d (sv x))), .second, .val (.int 3), .val (.int 1)] [(.ref ob)])) rfl rfl (hb hby d9_48)
    refine own_by (fun _ K => st15 _ K) ?_
    show OwnG p e below s _ _ _ (T15.setTop (mkF m 51 _ [(.ref da)]))
    refine own_by (fun _ K => XS.iload X15.here hx rfl (hb hby d9_51) rfl K) ?_
    show OwnG p e below s _ _ _ (T15.setTop (mkF m 53 _ [(.int 3), (.ref da)]))
    refine own_by (fun _ K => XS.aloadN X15.here hx rfl (hb hby d9_53) rfl rfl K) ?_
    show OwnG p e below s _ _ _ (T15.setTop (mkF m 54 _ [(.ref ob), (.int 3), (.ref da)]))
    obtain ⟨T16, X16, e16, st16⟩ := getF X15 hx hZ hown (host := "") (Or.inl (own_w hw 14 rfl)) Via.refl e15 f6 (g := (mkF m 54 #[.val (.ref ob), .val (.int 3), .val (.int x), .val (.double (FP.i2d (sv x))), .second, .val (.int 3), .val (.int 1)] [(.ref ob), (.int 3), (.ref da)])) rfl rfl (hb hby d9_54)
    refine own_by (fun _ K => st16 _ K) ?_
    show OwnG p e below s _ _ _ (T16.setTop (mkF m 57 _ [(.ref da), (.int 3), (.ref da)]))
    refine own_by (fun _ K => XS.iload X16.here hx rfl (hb hby d9_57) rfl K) ?_
    show OwnG p e below s _ _ _ (T16.setTop (mkF m 59 _ [(.int 1), (.ref da), (.int 3), (.ref da)]))
    refine own_by (fun _ K => own_ldI X16 hx hZ e16 f10 (j := (1 : Int32)) (i := 1) ⟨by decide, rfl, by decide⟩ (v := (.int d1)) t1.1 (g := (mkF m 59 #[.val (.ref ob), .val (.int 3), .val (.int x), .val (.double (FP.i2d (sv x))), .second, .val (.int 3), .val (.int 1)] [(.int 1), (.ref da), (.int 3), (.ref da)])) rfl rfl (hb hby d9_59) _ K) ?_
    show OwnG p e below s _ _ _ (T16.setTop (mkF m 60 _ [(.int d1), (.int 3), (.ref da)]))
    obtain ⟨T17, h17, X17, e17, W17, A17, st17⟩ := own_stI X16 hx hZ e16 f10 (j := (3 : Int32)) (i := 3) ⟨by decide, rfl, by decide⟩ (g := (mkF m 60 #[.val (.ref ob), .val (.int 3), .val (.int x), .val (.double (FP.i2d (sv x))), .second, .val (.int 3), .val (.int 1)] [(.int d1), (.int 3), (.ref da)])) rfl rfl (hb hby d9_60)
    refine own_by (fun _ K => st17 _ K) ?_
    have f18 := Exa.wr W17 f4
    have f19 := Fld.other W17 f5 (Or.inl Nn.2.2.2.2.1)
    have f20 := Fld.other W17 f6 (Or.inl Nn.2.2.2.2.1)
    have f21 := Fld.other W17 f7 (Or.inl Nn.2.2.2.2.1)
    have f22 := Fld.other W17 f8 (Or.inl Nn.2.2.2.2.1)
    have f23 := Fld.other W17 f9 (Or.inl Nn.2.2.2.2.1)
    have f25 := OwnA.other W17 f11 Nn.2.2.2.2.2.2.1
    have f26 := OwnA.other W17 f12 (Ne.symm Nn.2.2.2.2.2.2.2.2)
    have f27 := Keep.wr f13 W17 (Or.inl (by simp))
    have N17 := Fr.snoc X17 N3 Nn.2.2.1
    have sz17 : n0 ≤ h17.size := by rw [W17.size]; exact sz3
    show OwnG p e below s _ _ _ (T17.setTop (mkF m 61 _ []))
    refine own_by (fun _ K => XS.aloadN X17.here hx rfl (hb hby d9_61) rfl rfl K) ?_
    show OwnG p e below s _ _ _ (T17.setTop (mkF m 62 _ [(.ref ob)]))
    obtain ⟨T28, X28, e28, st28⟩ := getF X17 hx hZ hown (host := "") (Or.inl (own_w hw 12 rfl)) Via.refl e17 f19 (g := (mkF m 62 #[.val (.ref ob), .val (.int 3), .val (.int x), .val (.double (FP.i2d (sv x))), .second, .val (.int 3), .val (.int 1)] [(.ref ob)])) rfl rfl (hb hby d9_62)
    refine own_by (fun _ K => st28 _ K) ?_
    show OwnG p e below s _ _ _ (T28.setTop (mkF m 65 _ [(.ref sa)]))
    refine own_by (fun _ K => XS.iload X28.here hx rfl (hb hby d9_65) rfl K) ?_
    show OwnG p e below s _ _ _ (T28.setTop (mkF m 67 _ [(.int 3), (.ref sa)]))
    refine own_by (fun _ K => XS.aloadN X28.here hx rfl (hb hby d9_67) rfl rfl K) ?_
    show OwnG p e below s _ _ _ (T28.setTop (mkF m 68 _ [(.ref ob), (.int 3), (.ref sa)]))
    obtain ⟨T29, X29, e29, st29⟩ := getF X28 hx hZ hown (host := "") (Or.inl (own_w hw 12 rfl)) Via.refl e28 f19 (g := (mkF m 68 #[.val (.ref ob), .val (.int 3), .val (.int x), .val (.double (FP.i2d (sv x))), .second, .val (.int 3), .val (.int 1)] [(.ref ob), (.int 3), (.ref sa)])) rfl rfl (hb hby d9_68)
    refine own_by (fun _ K => st29 _ K) ?_
    show OwnG p e below s _ _ _ (T29.setTop (mkF m 71 _ [(.ref sa), (.int 3), (.ref sa)]))
    refine own_by (fun _ K => XS.iload X29.here hx rfl (hb hby d9_71) rfl K) ?_
    show OwnG p e below s _ _ _ (T29.setTop (mkF m 73 _ [(.int 1), (.ref sa), (.int 3), (.ref sa)]))
    refine own_by (fun _ K => own_ldD X29 hx hZ e29 f25 (j := (1 : Int32)) (i := 1) ⟨by decide, rfl, by decide⟩ (v := (.double (FP.i2d (sv d1)))) t1.2.1 (g := (mkF m 73 #[.val (.ref ob), .val (.int 3), .val (.int x), .val (.double (FP.i2d (sv x))), .second, .val (.int 3), .val (.int 1)] [(.int 1), (.ref sa), (.int 3), (.ref sa)])) rfl rfl (hb hby d9_73) _ K) ?_
    show OwnG p e below s _ _ _ (T29.setTop (mkF m 74 _ [(.double (FP.i2d (sv d1))), (.int 3), (.ref sa)]))
    obtain ⟨T30, h30, X30, e30, W30, A30, st30⟩ := own_stD X29 hx hZ e29 f25 (j := (3 : Int32)) (i := 3) ⟨by decide, rfl, by decide⟩ (g := (mkF m 74 #[.val (.ref ob), .val (.int 3), .val (.int x), .val (.double (FP.i2d (sv x))), .second, .val (.int 3), .val (.int 1)] [(.double (FP.i2d (sv d1))), (.int 3), (.ref sa)])) rfl rfl (hb hby d9_74)
    refine own_by (fun _ K => st30 _ K) ?_
    have f31 := Exa.wr W30 f18
    have f32 := Fld.other W30 f19 (Or.inl Nn.2.2.2.1)
    have f33 := Fld.other W30 f20 (Or.inl Nn.2.2.2.1)
    have f34 := Fld.other W30 f21 (Or.inl Nn.2.2.2.1)
    have f35 := Fld.other W30 f22 (Or.inl Nn.2.2.2.1)
    have f36 := Fld.other W30 f23 (Or.inl Nn.2.2.2.1)
    have f37 := OwnA.other W30 A17 (Ne.symm Nn.2.2.2.2.2.2.1)
    have f39 := OwnA.other W30 f26 (Ne.symm Nn.2.2.2.2.2.2.2.1)
    have f40 := Keep.wr f27 W30 (Or.inl (by simp))
    have N30 := Fr.snoc X30 N17 Nn.2.1
    have sz30 : n0 ≤ h30.size := by rw [W30.size]; exact sz17
    show OwnG p e below s _ _ _ (T30.setTop (mkF m 75 _ []))
    refine own_by (fun _ K => XS.iload X30.here hx rfl (hb hby d9_75) rfl K) ?_
    show OwnG p e below s _ _ _ (T30.setTop (mkF m 77 _ [(.int 1)]))
    refine own_by (fun _ K => XS.istore X30.here hx rfl (hb hby d9_77) rfl (l' := #[.val (.ref ob), .val (.int 3), .val (.int x), .val (.double (FP.i2d (sv x))), .second, .val (.int 1), .val (.int 1)]) rfl K) ?_
    show OwnG p e below s _ _ _ (T30.setTop (mkF m 79 _ []))
    refine own_by (fun _ K => XS.goto X30.here hx rfl (pc0 := 79) (pc' := 3) rfl (hb hby d9_79) (by decide) (by decide) K) ?_
    show OwnG p e below s _ _ _ (T30.setTop (mkF m 3 _ []))
    refine own_by (fun _ K => XS.iload X30.here hx rfl (hb hby d9_3) rfl K) ?_
    show OwnG p e below s _ _ _ (T30.setTop (mkF m 5 _ [(.int 1)]))
    refine own_by (fun _ K => XS.ifNo X30.here hx rfl (hb hby d9_5) rfl ((if0 _ _).trans (tlt (by decide)).2.2.2) K) ?_
    show OwnG p e below s _ _ _ (T30.setTop (mkF m 8 _ []))
    refine own_by (fun _ K => XS.aloadN X30.here hx rfl (hb hby d9_8) rfl rfl K) ?_
    show OwnG p e below s _ _ _ (T30.setTop (mkF m 9 _ [(.ref ob)]))
    refine own_by (fun _ K => XS.iloadN X30.here hx rfl (hb hby d9_9) rfl K) ?_
    show OwnG p e below s _ _ _ (T30.setTop (mkF m 10 _ [(.int x), (.ref ob)]))
    refine own_by (fun _ K => XS.dloadN X30.here hx rfl (hb hby d9_10) rfl K) ?_
    show OwnG p e below s _ _ _ (T30.setTop (mkF m 11 _ [(.double (FP.i2d (sv x))), (.int x), (.ref ob)]))
    refine own_by (fun _ K => XS.aloadN X30.here hx rfl (hb hby d9_11) rfl rfl K) ?_
    show OwnG p e below s _ _ _ (T30.setTop (mkF m 12 _ [(.ref ob), (.double (FP.i2d (sv x))), (.int x), (.ref ob)]))
    obtain ⟨T41, X41, e41, st41⟩ := getF X30 hx hZ hown (host := "") (Or.inl (own_w hw 14 rfl)) Via.refl e30 f33 (g := (mkF m 12 #[.val (.ref ob), .val (.int 3), .val (.int x), .val (.double (FP.i2d (sv x))), .second, .val (.int 1), .val (.int 1)] [(.ref ob), (.double (FP.i2d (sv x))), (.int x), (.ref ob)])) rfl rfl (hb hby d9_12)
    refine own_by (fun _ K => st41 _ K) ?_
    show OwnG p e below s _ _ _ (T41.setTop (mkF m 15 _ [(.ref da), (.double (FP.i2d (sv x))), (.int x), (.ref ob)]))
    refine own_by (fun _ K => XS.iload X41.here hx rfl (hb hby d9_15) rfl K) ?_
    show OwnG p e below s _ _ _ (T41.setTop (mkF m 17 _ [(.int 1), (.ref da), (.double (FP.i2d (sv x))), (.int x), (.ref ob)]))
    refine own_by (fun _ K => XS.iconst X41.here hx rfl (hb hby d9_17) K) ?_
    show OwnG p e below s _ _ _ (T41.setTop (mkF m 18 _ [(.int 1), (.int 1), (.ref da), (.double (FP.i2d (sv x))), (.int x), (.ref ob)]))
    refine own_by (fun _ K => XS.isub X41.here hx rfl (hb hby d9_18) rfl K) ?_
    show OwnG p e below s _ _ _ (T41.setTop (mkF m 19 _ [(.int 0), (.ref da), (.double (FP.i2d (sv x))), (.int x), (.ref ob)]))
    refine own_by (fun _ K => XS.iconst X41.here hx rfl (hb hby d9_19) K) ?_
    show OwnG p e below s _ _ _ (T41.setTop (mkF m 20 _ [(.int 2), (.int 0), (.ref da), (.double (FP.i2d (sv x))), (.int x), (.ref ob)]))
    refine own_by (fun _ K => XS.idiv X41.here hx rfl (hb hby d9_20) rfl (by decide) K) ?_
    show OwnG p e below s _ _ _ (T41.setTop (mkF m 21 _ [(.int 0), (.ref da), (.double (FP.i2d (sv x))), (.int x), (.ref ob)]))
    refine own_by (fun _ K => own_ldI X41 hx hZ e41 f37 (j := (0 : Int32)) (i := 0) ⟨by decide, rfl, by decide⟩ (v := (.int d0)) t0.1 (g := (mkF m 21 #[.val (.ref ob), .val (.int 3), .val (.int x), .val (.double (FP.i2d (sv x))), .second, .val (.int 1), .val (.int 1)] [(.int 0), (.ref da), (.double (FP.i2d (sv x))), (.int x), (.ref ob)])) rfl rfl (hb hby d9_21) _ K) ?_
    show OwnG p e below s _ _ _ (T41.setTop (mkF m 22 _ [(.int d0), (.double (FP.i2d (sv x))), (.int x), (.ref ob)]))
    refine own_by (fun _ K => XS.aloadN X41.here hx rfl (hb hby d9_22) rfl rfl K) ?_
    show OwnG p e below s _ _ _ (T41.setTop (mkF m 23 _ [(.ref ob), (.int d0), (.double (FP.i2d (sv x))), (.int x), (.ref ob)]))
    obtain ⟨T42, X42, e42, st42⟩ := getF X41 hx hZ hown (host := "") (Or.inl (own_w hw 12 rfl)) Via.refl e41 f32 (g := (mkF m 23 #[.val (.ref ob), .val (.int 3), .val (.int x), .val (.double (FP.i2d (sv x))), .second, .val (.int 1), .val (.int 1)] [(.ref ob), (.int d0), (.double (FP.i2d (sv x))), (.int x), (.ref ob)])) rfl rfl (hb hby d9_23)
    refine own_by (fun _ K => st42 _ K) ?_
    show OwnG p e below s _ _ _ (T42.setTop (mkF m 26 _ [(.ref sa), (.int d0), (.double (FP.i2d (sv x))), (.int x), (.ref ob)]))
    refine own_by (fun _ K => XS.iload X42.here hx rfl (hb hby d9_26) rfl K) ?_
    show OwnG p e below s _ _ _ (T42.setTop (mkF m 28 _ [(.int 1), (.ref sa), (.int d0), (.double (FP.i2d (sv x))), (.int x), (.ref ob)]))
    refine own_by (fun _ K => XS.iconst X42.here hx rfl (hb hby d9_28) K) ?_
    show OwnG p e below s _ _ _ (T42.setTop (mkF m 29 _ [(.int 1), (.int 1), (.ref sa), (.int d0), (.double (FP.i2d (sv x))), (.int x), (.ref ob)]))
    refine own_by (fun _ K => XS.isub X42.here hx rfl (hb hby d9_29) rfl K) ?_
    show OwnG p e below s _ _ _ (T42.setTop (mkF m 30 _ [(.int 0), (.ref sa), (.int d0), (.double (FP.i2d (sv x))), (.int x), (.ref ob)]))
    refine own_by (fun _ K => XS.iconst X42.here hx rfl (hb hby d9_30) K) ?_
    show OwnG p e below s _ _ _ (T42.setTop (mkF m 31 _ [(.int 2), (.int 0), (.ref sa), (.int d0), (.double (FP.i2d (sv x))), (.int x), (.ref ob)]))
    refine own_by (fun _ K => XS.idiv X42.here hx rfl (hb hby d9_31) rfl (by decide) K) ?_
    show OwnG p e below s _ _ _ (T42.setTop (mkF m 32 _ [(.int 0), (.ref sa), (.int d0), (.double (FP.i2d (sv x))), (.int x), (.ref ob)]))
    refine own_by (fun _ K => own_ldD X42 hx hZ e42 A30 (j := (0 : Int32)) (i := 0) ⟨by decide, rfl, by decide⟩ (v := (.double (FP.i2d (sv d0)))) t0.2.1 (g := (mkF m 32 #[.val (.ref ob), .val (.int 3), .val (.int x), .val (.double (FP.i2d (sv x))), .second, .val (.int 1), .val (.int 1)] [(.int 0), (.ref sa), (.int d0), (.double (FP.i2d (sv x))), (.int x), (.ref ob)])) rfl rfl (hb hby d9_32) _ K) ?_
    show OwnG p e below s _ _ _ (T42.setTop (mkF m 33 _ [(.double (FP.i2d (sv d0))), (.int d0), (.double (FP.i2d (sv x))), (.int x), (.ref ob)]))
    obtain ⟨cq43, q43, q43'⟩ := Exa.cell f31
    obtain ⟨_, _, ⟨T43, L43, k43, n43⟩, -, X43, ⟨Lc43, hQ43, l43, y43, z43⟩, st43⟩ := X42.privateBack hx (y := (⟨"com/example/etsinta/etsinta/search/Best", "worse", "(IDID)Z"⟩ : MethodName)) hown (mvT hZ (own_w hw 69 rfl)) (mvT hZ (own_w hw 70 rfl)) (own_selp hZ (y := (⟨"com/example/etsinta/etsinta/search/Best", "worse", "(IDID)Z"⟩ : MethodName)) (own_w hw 4 rfl) (own_w hw 71 rfl) (own_w hw 70 rfl) (by decide)) (Cond.privateMethod_at (mvP hZ (own_w hw 71 rfl) (args := #[]))) (mvT hZ (own_w hw 72 rfl)) (by decide) (backOf (W := 0) (rm14 l Z a0 hw [] sv pl ob sa da pa sz (ownSet fd 3 (.int d1)) (ownSet fs 3 (.double (FP.i2d (sv d1)))) fp x d0 h30 n0 sz30 ⟨f31, f32, f33, f34, f35, f36, f37, A30, f39⟩ hP k_x t0.2.2) hZ (own_w hw 72 rfl) (own_w hw 5 rfl) (by decide) (by decide)) (g := (mkF m 33 #[.val (.ref ob), .val (.int 3), .val (.int x), .val (.double (FP.i2d (sv x))), .second, .val (.int 1), .val (.int 1)] [(.double (FP.i2d (sv d0))), (.int d0), (.double (FP.i2d (sv x))), (.int x), (.ref ob)])) rfl (by rw [hml]; rfl) (Steps.refl _) (a := ob) (by rw [e42]; exact q43) q43' (argsL := [(.int x), (.double (FP.i2d (sv x))), (.int d0), (.double (FP.i2d (sv d0)))]) (rest := []) (lenOf pd_0 rfl) rfl (by show 2 * 0 + _ ≤ _; exact Nat.le_of_eq rfl) (hb hby d9_33) (fun _ _ => ⟨rfl, e42, (by decide : 0 + 0 ≤ _), (by decide : 0 + 0 ≤ _)⟩)
    dsimp only [Pt.U, Pt.locs, Pt.cells, Pt.slots] at X43 l43 y43 z43 st43 hQ43
    subst l43 y43 z43
    refine own_by (fun _ K => st43.trans K) ?_
    obtain ⟨rfl, N43q, hh43⟩ := hQ43
    have N43 := Fr.app N30 N43q
    have f44 := f31
    rw [← hh43] at f44
    have f45 := f32
    rw [← hh43] at f45
    have f46 := f33
    rw [← hh43] at f46
    have f47 := f34
    rw [← hh43] at f47
    have f48 := f35
    rw [← hh43] at f48
    have f49 := f36
    rw [← hh43] at f49
    have f50 := f37
    rw [← hh43] at f50
    have f51 := A30
    rw [← hh43] at f51
    have f52 := f39
    rw [← hh43] at f52
    have f53 : Keep h0 T43.heap [sa, da] := by rw [hh43]; exact f40
    have sz43 : n0 ≤ T43.heap.size := by rw [hh43]; exact sz30
    show OwnG p e below s _ _ _ (T43.setTop (mkF m 36 _ [(.int (own_b (own_K sv pl x < own_K sv pl d0)))]))
    by_cases hK54 : own_K sv pl x < own_K sv pl d0
    · rw [own_bT hK54]
      show OwnG p e below s _ _ _ (T43.setTop (mkF m 36 #[.val (.ref ob), .val (.int 3), .val (.int x), .val (.double (FP.i2d (sv x))), .second, .val (.int 1), .val (.int 1)] [(.int 1)]))
      refine own_by (fun _ K => XS.ifNo X43.here hx rfl (hb hby d9_36) rfl ((if0 _ _).trans (feq (by decide)).1) K) ?_
      show OwnG p e below s _ _ _ (T43.setTop (mkF m 39 _ []))
      refine own_by (fun _ K => XS.iload X43.here hx rfl (hb hby d9_39) rfl K) ?_
      show OwnG p e below s _ _ _ (T43.setTop (mkF m 41 _ [(.int 1)]))
      refine own_by (fun _ K => XS.iconst X43.here hx rfl (hb hby d9_41) K) ?_
      show OwnG p e below s _ _ _ (T43.setTop (mkF m 42 _ [(.int 1), (.int 1)]))
      refine own_by (fun _ K => XS.isub X43.here hx rfl (hb hby d9_42) rfl K) ?_
      show OwnG p e below s _ _ _ (T43.setTop (mkF m 43 _ [(.int 0)]))
      refine own_by (fun _ K => XS.iconst X43.here hx rfl (hb hby d9_43) K) ?_
      show OwnG p e below s _ _ _ (T43.setTop (mkF m 44 _ [(.int 2), (.int 0)]))
      refine own_by (fun _ K => XS.idiv X43.here hx rfl (hb hby d9_44) rfl (by decide) K) ?_
      show OwnG p e below s _ _ _ (T43.setTop (mkF m 45 _ [(.int 0)]))
      refine own_by (fun _ K => XS.istore X43.here hx rfl (hb hby d9_45) rfl (l' := #[.val (.ref ob), .val (.int 3), .val (.int x), .val (.double (FP.i2d (sv x))), .second, .val (.int 1), .val (.int 0)]) rfl K) ?_
      show OwnG p e below s _ _ _ (T43.setTop (mkF m 47 _ []))
      refine own_by (fun _ K => XS.aloadN X43.here hx rfl (hb hby d9_47) rfl rfl K) ?_
      show OwnG p e below s _ _ _ (T43.setTop (mkF m 48 _ [(.ref ob)]))
      obtain ⟨T55, X55, e55, st55⟩ := getF X43 hx hZ hown (host := "") (Or.inl (own_w hw 14 rfl)) Via.refl (rfl : T43.heap = T43.heap) f46 (g := (mkF m 48 #[.val (.ref ob), .val (.int 3), .val (.int x), .val (.double (FP.i2d (sv x))), .second, .val (.int 1), .val (.int 0)] [(.ref ob)])) rfl rfl (hb hby d9_48)
      refine own_by (fun _ K => st55 _ K) ?_
      show OwnG p e below s _ _ _ (T55.setTop (mkF m 51 _ [(.ref da)]))
      refine own_by (fun _ K => XS.iload X55.here hx rfl (hb hby d9_51) rfl K) ?_
      show OwnG p e below s _ _ _ (T55.setTop (mkF m 53 _ [(.int 1), (.ref da)]))
      refine own_by (fun _ K => XS.aloadN X55.here hx rfl (hb hby d9_53) rfl rfl K) ?_
      show OwnG p e below s _ _ _ (T55.setTop (mkF m 54 _ [(.ref ob), (.int 1), (.ref da)]))
      obtain ⟨T56, X56, e56, st56⟩ := getF X55 hx hZ hown (host := "") (Or.inl (own_w hw 14 rfl)) Via.refl e55 f46 (g := (mkF m 54 #[.val (.ref ob), .val (.int 3), .val (.int x), .val (.double (FP.i2d (sv x))), .second, .val (.int 1), .val (.int 0)] [(.ref ob), (.int 1), (.ref da)])) rfl rfl (hb hby d9_54)
      refine own_by (fun _ K => st56 _ K) ?_
      show OwnG p e below s _ _ _ (T56.setTop (mkF m 57 _ [(.ref da), (.int 1), (.ref da)]))
      refine own_by (fun _ K => XS.iload X56.here hx rfl (hb hby d9_57) rfl K) ?_
      show OwnG p e below s _ _ _ (T56.setTop (mkF m 59 _ [(.int 0), (.ref da), (.int 1), (.ref da)]))
      refine own_by (fun _ K => own_ldI X56 hx hZ e56 f50 (j := (0 : Int32)) (i := 0) ⟨by decide, rfl, by decide⟩ (v := (.int d0)) t0.1 (g := (mkF m 59 #[.val (.ref ob), .val (.int 3), .val (.int x), .val (.double (FP.i2d (sv x))), .second, .val (.int 1), .val (.int 0)] [(.int 0), (.ref da), (.int 1), (.ref da)])) rfl rfl (hb hby d9_59) _ K) ?_
      show OwnG p e below s _ _ _ (T56.setTop (mkF m 60 _ [(.int d0), (.int 1), (.ref da)]))
      obtain ⟨T57, h57, X57, e57, W57, A57, st57⟩ := own_stI X56 hx hZ e56 f50 (j := (1 : Int32)) (i := 1) ⟨by decide, rfl, by decide⟩ (g := (mkF m 60 #[.val (.ref ob), .val (.int 3), .val (.int x), .val (.double (FP.i2d (sv x))), .second, .val (.int 1), .val (.int 0)] [(.int d0), (.int 1), (.ref da)])) rfl rfl (hb hby d9_60)
      refine own_by (fun _ K => st57 _ K) ?_
      have f58 := Exa.wr W57 f44
      have f59 := Fld.other W57 f45 (Or.inl Nn.2.2.2.2.1)
      have f60 := Fld.other W57 f46 (Or.inl Nn.2.2.2.2.1)
      have f61 := Fld.other W57 f47 (Or.inl Nn.2.2.2.2.1)
      have f62 := Fld.other W57 f48 (Or.inl Nn.2.2.2.2.1)
      have f63 := Fld.other W57 f49 (Or.inl Nn.2.2.2.2.1)
      have f65 := OwnA.other W57 f51 Nn.2.2.2.2.2.2.1
      have f66 := OwnA.other W57 f52 (Ne.symm Nn.2.2.2.2.2.2.2.2)
      have f67 := Keep.wr f53 W57 (Or.inl (by simp))
      have N57 := Fr.snoc X57 N43 Nn.2.2.1
      have sz57 : n0 ≤ h57.size := by rw [W57.size]; exact sz43
      show OwnG p e below s _ _ _ (T57.setTop (mkF m 61 _ []))
      refine own_by (fun _ K => XS.aloadN X57.here hx rfl (hb hby d9_61) rfl rfl K) ?_
      show OwnG p e below s _ _ _ (T57.setTop (mkF m 62 _ [(.ref ob)]))
      obtain ⟨T68, X68, e68, st68⟩ := getF X57 hx hZ hown (host := "") (Or.inl (own_w hw 12 rfl)) Via.refl e57 f59 (g := (mkF m 62 #[.val (.ref ob), .val (.int 3), .val (.int x), .val (.double (FP.i2d (sv x))), .second, .val (.int 1), .val (.int 0)] [(.ref ob)])) rfl rfl (hb hby d9_62)
      refine own_by (fun _ K => st68 _ K) ?_
      show OwnG p e below s _ _ _ (T68.setTop (mkF m 65 _ [(.ref sa)]))
      refine own_by (fun _ K => XS.iload X68.here hx rfl (hb hby d9_65) rfl K) ?_
      show OwnG p e below s _ _ _ (T68.setTop (mkF m 67 _ [(.int 1), (.ref sa)]))
      refine own_by (fun _ K => XS.aloadN X68.here hx rfl (hb hby d9_67) rfl rfl K) ?_
      show OwnG p e below s _ _ _ (T68.setTop (mkF m 68 _ [(.ref ob), (.int 1), (.ref sa)]))
      obtain ⟨T69, X69, e69, st69⟩ := getF X68 hx hZ hown (host := "") (Or.inl (own_w hw 12 rfl)) Via.refl e68 f59 (g := (mkF m 68 #[.val (.ref ob), .val (.int 3), .val (.int x), .val (.double (FP.i2d (sv x))), .second, .val (.int 1), .val (.int 0)] [(.ref ob), (.int 1), (.ref sa)])) rfl rfl (hb hby d9_68)
      refine own_by (fun _ K => st69 _ K) ?_
      show OwnG p e below s _ _ _ (T69.setTop (mkF m 71 _ [(.ref sa), (.int 1), (.ref sa)]))
      refine own_by (fun _ K => XS.iload X69.here hx rfl (hb hby d9_71) rfl K) ?_
      show OwnG p e below s _ _ _ (T69.setTop (mkF m 73 _ [(.int 0), (.ref sa), (.int 1), (.ref sa)]))
      refine own_by (fun _ K => own_ldD X69 hx hZ e69 f65 (j := (0 : Int32)) (i := 0) ⟨by decide, rfl, by decide⟩ (v := (.double (FP.i2d (sv d0)))) t0.2.1 (g := (mkF m 73 #[.val (.ref ob), .val (.int 3), .val (.int x), .val (.double (FP.i2d (sv x))), .second, .val (.int 1), .val (.int 0)] [(.int 0), (.ref sa), (.int 1), (.ref sa)])) rfl rfl (hb hby d9_73) _ K) ?_
      show OwnG p e below s _ _ _ (T69.setTop (mkF m 74 _ [(.double (FP.i2d (sv d0))), (.int 1), (.ref sa)]))
      obtain ⟨T70, h70, X70, e70, W70, A70, st70⟩ := own_stD X69 hx hZ e69 f65 (j := (1 : Int32)) (i := 1) ⟨by decide, rfl, by decide⟩ (g := (mkF m 74 #[.val (.ref ob), .val (.int 3), .val (.int x), .val (.double (FP.i2d (sv x))), .second, .val (.int 1), .val (.int 0)] [(.double (FP.i2d (sv d0))), (.int 1), (.ref sa)])) rfl rfl (hb hby d9_74)
      refine own_by (fun _ K => st70 _ K) ?_
      have f71 := Exa.wr W70 f58
      have f72 := Fld.other W70 f59 (Or.inl Nn.2.2.2.1)
      have f73 := Fld.other W70 f60 (Or.inl Nn.2.2.2.1)
      have f74 := Fld.other W70 f61 (Or.inl Nn.2.2.2.1)
      have f75 := Fld.other W70 f62 (Or.inl Nn.2.2.2.1)
      have f76 := Fld.other W70 f63 (Or.inl Nn.2.2.2.1)
      have f77 := OwnA.other W70 A57 (Ne.symm Nn.2.2.2.2.2.2.1)
      have f79 := OwnA.other W70 f66 (Ne.symm Nn.2.2.2.2.2.2.2.1)
      have f80 := Keep.wr f67 W70 (Or.inl (by simp))
      have N70 := Fr.snoc X70 N57 Nn.2.1
      have sz70 : n0 ≤ h70.size := by rw [W70.size]; exact sz57
      show OwnG p e below s _ _ _ (T70.setTop (mkF m 75 _ []))
      refine own_by (fun _ K => XS.iload X70.here hx rfl (hb hby d9_75) rfl K) ?_
      show OwnG p e below s _ _ _ (T70.setTop (mkF m 77 _ [(.int 0)]))
      refine own_by (fun _ K => XS.istore X70.here hx rfl (hb hby d9_77) rfl (l' := #[.val (.ref ob), .val (.int 3), .val (.int x), .val (.double (FP.i2d (sv x))), .second, .val (.int 0), .val (.int 0)]) rfl K) ?_
      show OwnG p e below s _ _ _ (T70.setTop (mkF m 79 _ []))
      refine own_by (fun _ K => XS.goto X70.here hx rfl (pc0 := 79) (pc' := 3) rfl (hb hby d9_79) (by decide) (by decide) K) ?_
      show OwnG p e below s _ _ _ (T70.setTop (mkF m 3 _ []))
      refine own_by (fun _ K => XS.iload X70.here hx rfl (hb hby d9_3) rfl K) ?_
      show OwnG p e below s _ _ _ (T70.setTop (mkF m 5 _ [(.int 0)]))
      refine own_by (fun _ K => XS.ifYes X70.here hx rfl (pc0 := 5) (pc' := 82) rfl (hb hby d9_5) rfl ((if0 _ _).trans (flt (by decide)).2.2.2) (by decide) (by decide) K) ?_
      show OwnG p e below s _ _ _ (T70.setTop (mkF m 82 _ []))
      refine own_by (fun _ K => XS.aloadN X70.here hx rfl (hb hby d9_82) rfl rfl K) ?_
      show OwnG p e below s _ _ _ (T70.setTop (mkF m 83 _ [(.ref ob)]))
      obtain ⟨T81, X81, e81, st81⟩ := getF X70 hx hZ hown (host := "") (Or.inl (own_w hw 14 rfl)) Via.refl e70 f73 (g := (mkF m 83 #[.val (.ref ob), .val (.int 3), .val (.int x), .val (.double (FP.i2d (sv x))), .second, .val (.int 0), .val (.int 0)] [(.ref ob)])) rfl rfl (hb hby d9_83)
      refine own_by (fun _ K => st81 _ K) ?_
      show OwnG p e below s _ _ _ (T81.setTop (mkF m 86 _ [(.ref da)]))
      refine own_by (fun _ K => XS.iload X81.here hx rfl (hb hby d9_86) rfl K) ?_
      show OwnG p e below s _ _ _ (T81.setTop (mkF m 88 _ [(.int 0), (.ref da)]))
      refine own_by (fun _ K => XS.iloadN X81.here hx rfl (hb hby d9_88) rfl K) ?_
      show OwnG p e below s _ _ _ (T81.setTop (mkF m 89 _ [(.int x), (.int 0), (.ref da)]))
      obtain ⟨T82, h82, X82, e82, W82, A82, st82⟩ := own_stI X81 hx hZ e81 f77 (j := (0 : Int32)) (i := 0) ⟨by decide, rfl, by decide⟩ (g := (mkF m 89 #[.val (.ref ob), .val (.int 3), .val (.int x), .val (.double (FP.i2d (sv x))), .second, .val (.int 0), .val (.int 0)] [(.int x), (.int 0), (.ref da)])) rfl rfl (hb hby d9_89)
      refine own_by (fun _ K => st82 _ K) ?_
      have f83 := Exa.wr W82 f71
      have f84 := Fld.other W82 f72 (Or.inl Nn.2.2.2.2.1)
      have f85 := Fld.other W82 f73 (Or.inl Nn.2.2.2.2.1)
      have f86 := Fld.other W82 f74 (Or.inl Nn.2.2.2.2.1)
      have f87 := Fld.other W82 f75 (Or.inl Nn.2.2.2.2.1)
      have f88 := Fld.other W82 f76 (Or.inl Nn.2.2.2.2.1)
      have f90 := OwnA.other W82 A70 Nn.2.2.2.2.2.2.1
      have f91 := OwnA.other W82 f79 (Ne.symm Nn.2.2.2.2.2.2.2.2)
      have f92 := Keep.wr f80 W82 (Or.inl (by simp))
      have N82 := Fr.snoc X82 N70 Nn.2.2.1
      have sz82 : n0 ≤ h82.size := by rw [W82.size]; exact sz70
      show OwnG p e below s _ _ _ (T82.setTop (mkF m 90 _ []))
      refine own_by (fun _ K => XS.aloadN X82.here hx rfl (hb hby d9_90) rfl rfl K) ?_
      show OwnG p e below s _ _ _ (T82.setTop (mkF m 91 _ [(.ref ob)]))
      obtain ⟨T93, X93, e93, st93⟩ := getF X82 hx hZ hown (host := "") (Or.inl (own_w hw 12 rfl)) Via.refl e82 f84 (g := (mkF m 91 #[.val (.ref ob), .val (.int 3), .val (.int x), .val (.double (FP.i2d (sv x))), .second, .val (.int 0), .val (.int 0)] [(.ref ob)])) rfl rfl (hb hby d9_91)
      refine own_by (fun _ K => st93 _ K) ?_
      show OwnG p e below s _ _ _ (T93.setTop (mkF m 94 _ [(.ref sa)]))
      refine own_by (fun _ K => XS.iload X93.here hx rfl (hb hby d9_94) rfl K) ?_
      show OwnG p e below s _ _ _ (T93.setTop (mkF m 96 _ [(.int 0), (.ref sa)]))
      refine own_by (fun _ K => XS.dloadN X93.here hx rfl (hb hby d9_96) rfl K) ?_
      show OwnG p e below s _ _ _ (T93.setTop (mkF m 97 _ [(.double (FP.i2d (sv x))), (.int 0), (.ref sa)]))
      obtain ⟨T94, h94, X94, e94, W94, A94, st94⟩ := own_stD X93 hx hZ e93 f90 (j := (0 : Int32)) (i := 0) ⟨by decide, rfl, by decide⟩ (g := (mkF m 97 #[.val (.ref ob), .val (.int 3), .val (.int x), .val (.double (FP.i2d (sv x))), .second, .val (.int 0), .val (.int 0)] [(.double (FP.i2d (sv x))), (.int 0), (.ref sa)])) rfl rfl (hb hby d9_97)
      refine own_by (fun _ K => st94 _ K) ?_
      have f95 := Exa.wr W94 f83
      have f96 := Fld.other W94 f84 (Or.inl Nn.2.2.2.1)
      have f97 := Fld.other W94 f85 (Or.inl Nn.2.2.2.1)
      have f98 := Fld.other W94 f86 (Or.inl Nn.2.2.2.1)
      have f99 := Fld.other W94 f87 (Or.inl Nn.2.2.2.1)
      have f100 := Fld.other W94 f88 (Or.inl Nn.2.2.2.1)
      have f101 := OwnA.other W94 A82 (Ne.symm Nn.2.2.2.2.2.2.1)
      have f103 := OwnA.other W94 f91 (Ne.symm Nn.2.2.2.2.2.2.2.1)
      have f104 := Keep.wr f92 W94 (Or.inl (by simp))
      have N94 := Fr.snoc X94 N82 Nn.2.1
      have sz94 : n0 ≤ h94.size := by rw [W94.size]; exact sz82
      show OwnG p e below s _ _ _ (T94.setTop (mkF m 98 _ []))
      exact own_outV X94 hx hret hlk (hb hby d9_98) (by show _ ∧ _; rw [e94]; exact ⟨rfl, N94, f104, _, _, x, d0, d2, d1, ⟨f95, f96, f97, f98, f99, f100, f101, A94, f103⟩, ⟨rfl, rfl, k_x⟩, ⟨rfl, rfl, t0.2.2⟩, ⟨t2.1, t2.2.1, t2.2.2⟩, ⟨rfl, rfl, t1.2.2⟩, (by unfold own_U3; rw [if_pos hK14, if_pos hK54]; exact ⟨rfl, rfl, rfl, rfl⟩)⟩) (by decide) (by decide)
    · rw [own_bF hK54]
      show OwnG p e below s _ _ _ (T43.setTop (mkF m 36 #[.val (.ref ob), .val (.int 3), .val (.int x), .val (.double (FP.i2d (sv x))), .second, .val (.int 1), .val (.int 1)] [(.int 0)]))
      refine own_by (fun _ K => XS.ifYes X43.here hx rfl (pc0 := 36) (pc' := 82) rfl (hb hby d9_36) rfl ((if0 _ _).trans (teq (by decide)).1) (by decide) (by decide) K) ?_
      show OwnG p e below s _ _ _ (T43.setTop (mkF m 82 _ []))
      refine own_by (fun _ K => XS.aloadN X43.here hx rfl (hb hby d9_82) rfl rfl K) ?_
      show OwnG p e below s _ _ _ (T43.setTop (mkF m 83 _ [(.ref ob)]))
      obtain ⟨T105, X105, e105, st105⟩ := getF X43 hx hZ hown (host := "") (Or.inl (own_w hw 14 rfl)) Via.refl (rfl : T43.heap = T43.heap) f46 (g := (mkF m 83 #[.val (.ref ob), .val (.int 3), .val (.int x), .val (.double (FP.i2d (sv x))), .second, .val (.int 1), .val (.int 1)] [(.ref ob)])) rfl rfl (hb hby d9_83)
      refine own_by (fun _ K => st105 _ K) ?_
      show OwnG p e below s _ _ _ (T105.setTop (mkF m 86 _ [(.ref da)]))
      refine own_by (fun _ K => XS.iload X105.here hx rfl (hb hby d9_86) rfl K) ?_
      show OwnG p e below s _ _ _ (T105.setTop (mkF m 88 _ [(.int 1), (.ref da)]))
      refine own_by (fun _ K => XS.iloadN X105.here hx rfl (hb hby d9_88) rfl K) ?_
      show OwnG p e below s _ _ _ (T105.setTop (mkF m 89 _ [(.int x), (.int 1), (.ref da)]))
      obtain ⟨T106, h106, X106, e106, W106, A106, st106⟩ := own_stI X105 hx hZ e105 f50 (j := (1 : Int32)) (i := 1) ⟨by decide, rfl, by decide⟩ (g := (mkF m 89 #[.val (.ref ob), .val (.int 3), .val (.int x), .val (.double (FP.i2d (sv x))), .second, .val (.int 1), .val (.int 1)] [(.int x), (.int 1), (.ref da)])) rfl rfl (hb hby d9_89)
      refine own_by (fun _ K => st106 _ K) ?_
      have f107 := Exa.wr W106 f44
      have f108 := Fld.other W106 f45 (Or.inl Nn.2.2.2.2.1)
      have f109 := Fld.other W106 f46 (Or.inl Nn.2.2.2.2.1)
      have f110 := Fld.other W106 f47 (Or.inl Nn.2.2.2.2.1)
      have f111 := Fld.other W106 f48 (Or.inl Nn.2.2.2.2.1)
      have f112 := Fld.other W106 f49 (Or.inl Nn.2.2.2.2.1)
      have f114 := OwnA.other W106 f51 Nn.2.2.2.2.2.2.1
      have f115 := OwnA.other W106 f52 (Ne.symm Nn.2.2.2.2.2.2.2.2)
      have f116 := Keep.wr f53 W106 (Or.inl (by simp))
      have N106 := Fr.snoc X106 N43 Nn.2.2.1
      have sz106 : n0 ≤ h106.size := by rw [W106.size]; exact sz43
      show OwnG p e below s _ _ _ (T106.setTop (mkF m 90 _ []))
      refine own_by (fun _ K => XS.aloadN X106.here hx rfl (hb hby d9_90) rfl rfl K) ?_
      show OwnG p e below s _ _ _ (T106.setTop (mkF m 91 _ [(.ref ob)]))
      obtain ⟨T117, X117, e117, st117⟩ := getF X106 hx hZ hown (host := "") (Or.inl (own_w hw 12 rfl)) Via.refl e106 f108 (g := (mkF m 91 #[.val (.ref ob), .val (.int 3), .val (.int x), .val (.double (FP.i2d (sv x))), .second, .val (.int 1), .val (.int 1)] [(.ref ob)])) rfl rfl (hb hby d9_91)
      refine own_by (fun _ K => st117 _ K) ?_
      show OwnG p e below s _ _ _ (T117.setTop (mkF m 94 _ [(.ref sa)]))
      refine own_by (fun _ K => XS.iload X117.here hx rfl (hb hby d9_94) rfl K) ?_
      show OwnG p e below s _ _ _ (T117.setTop (mkF m 96 _ [(.int 1), (.ref sa)]))
      refine own_by (fun _ K => XS.dloadN X117.here hx rfl (hb hby d9_96) rfl K) ?_
      show OwnG p e below s _ _ _ (T117.setTop (mkF m 97 _ [(.double (FP.i2d (sv x))), (.int 1), (.ref sa)]))
      obtain ⟨T118, h118, X118, e118, W118, A118, st118⟩ := own_stD X117 hx hZ e117 f114 (j := (1 : Int32)) (i := 1) ⟨by decide, rfl, by decide⟩ (g := (mkF m 97 #[.val (.ref ob), .val (.int 3), .val (.int x), .val (.double (FP.i2d (sv x))), .second, .val (.int 1), .val (.int 1)] [(.double (FP.i2d (sv x))), (.int 1), (.ref sa)])) rfl rfl (hb hby d9_97)
      refine own_by (fun _ K => st118 _ K) ?_
      have f119 := Exa.wr W118 f107
      have f120 := Fld.other W118 f108 (Or.inl Nn.2.2.2.1)
      have f121 := Fld.other W118 f109 (Or.inl Nn.2.2.2.1)
      have f122 := Fld.other W118 f110 (Or.inl Nn.2.2.2.1)
      have f123 := Fld.other W118 f111 (Or.inl Nn.2.2.2.1)
      have f124 := Fld.other W118 f112 (Or.inl Nn.2.2.2.1)
      have f125 := OwnA.other W118 A106 (Ne.symm Nn.2.2.2.2.2.2.1)
      have f127 := OwnA.other W118 f115 (Ne.symm Nn.2.2.2.2.2.2.2.1)
      have f128 := Keep.wr f116 W118 (Or.inl (by simp))
      have N118 := Fr.snoc X118 N106 Nn.2.1
      have sz118 : n0 ≤ h118.size := by rw [W118.size]; exact sz106
      show OwnG p e below s _ _ _ (T118.setTop (mkF m 98 _ []))
      exact own_outV X118 hx hret hlk (hb hby d9_98) (by show _ ∧ _; rw [e118]; exact ⟨rfl, N118, f128, _, _, d0, x, d2, d1, ⟨f119, f120, f121, f122, f123, f124, f125, A118, f127⟩, ⟨t0.1, t0.2.1, t0.2.2⟩, ⟨rfl, rfl, k_x⟩, ⟨t2.1, t2.2.1, t2.2.2⟩, ⟨rfl, rfl, t1.2.2⟩, (by unfold own_U3; rw [if_pos hK14, if_neg hK54]; exact ⟨rfl, rfl, rfl, rfl⟩)⟩) (by decide) (by decide)
  · rw [own_bF hK14]
    show OwnG p e below s _ _ _ (T3.setTop (mkF m 36 #[.val (.ref ob), .val (.int 3), .val (.int x), .val (.double (FP.i2d (sv x))), .second, .val (.int 3), .unset] [(.int 0)]))
    refine own_by (fun _ K => XS.ifYes X3.here hx rfl (pc0 := 36) (pc' := 82) rfl (hb hby d9_36) rfl ((if0 _ _).trans (teq (by decide)).1) (by decide) (by decide) K) ?_
    show OwnG p e below s _ _ _ (T3.setTop (mkF m 82 _ []))
    refine own_by (fun _ K => XS.aloadN X3.here hx rfl (hb hby d9_82) rfl rfl K) ?_
    show OwnG p e below s _ _ _ (T3.setTop (mkF m 83 _ [(.ref ob)]))
    obtain ⟨T129, X129, e129, st129⟩ := getF X3 hx hZ hown (host := "") (Or.inl (own_w hw 14 rfl)) Via.refl (rfl : T3.heap = T3.heap) f6 (g := (mkF m 83 #[.val (.ref ob), .val (.int 3), .val (.int x), .val (.double (FP.i2d (sv x))), .second, .val (.int 3), .unset] [(.ref ob)])) rfl rfl (hb hby d9_83)
    refine own_by (fun _ K => st129 _ K) ?_
    show OwnG p e below s _ _ _ (T129.setTop (mkF m 86 _ [(.ref da)]))
    refine own_by (fun _ K => XS.iload X129.here hx rfl (hb hby d9_86) rfl K) ?_
    show OwnG p e below s _ _ _ (T129.setTop (mkF m 88 _ [(.int 3), (.ref da)]))
    refine own_by (fun _ K => XS.iloadN X129.here hx rfl (hb hby d9_88) rfl K) ?_
    show OwnG p e below s _ _ _ (T129.setTop (mkF m 89 _ [(.int x), (.int 3), (.ref da)]))
    obtain ⟨T130, h130, X130, e130, W130, A130, st130⟩ := own_stI X129 hx hZ e129 f10 (j := (3 : Int32)) (i := 3) ⟨by decide, rfl, by decide⟩ (g := (mkF m 89 #[.val (.ref ob), .val (.int 3), .val (.int x), .val (.double (FP.i2d (sv x))), .second, .val (.int 3), .unset] [(.int x), (.int 3), (.ref da)])) rfl rfl (hb hby d9_89)
    refine own_by (fun _ K => st130 _ K) ?_
    have f131 := Exa.wr W130 f4
    have f132 := Fld.other W130 f5 (Or.inl Nn.2.2.2.2.1)
    have f133 := Fld.other W130 f6 (Or.inl Nn.2.2.2.2.1)
    have f134 := Fld.other W130 f7 (Or.inl Nn.2.2.2.2.1)
    have f135 := Fld.other W130 f8 (Or.inl Nn.2.2.2.2.1)
    have f136 := Fld.other W130 f9 (Or.inl Nn.2.2.2.2.1)
    have f138 := OwnA.other W130 f11 Nn.2.2.2.2.2.2.1
    have f139 := OwnA.other W130 f12 (Ne.symm Nn.2.2.2.2.2.2.2.2)
    have f140 := Keep.wr f13 W130 (Or.inl (by simp))
    have N130 := Fr.snoc X130 N3 Nn.2.2.1
    have sz130 : n0 ≤ h130.size := by rw [W130.size]; exact sz3
    show OwnG p e below s _ _ _ (T130.setTop (mkF m 90 _ []))
    refine own_by (fun _ K => XS.aloadN X130.here hx rfl (hb hby d9_90) rfl rfl K) ?_
    show OwnG p e below s _ _ _ (T130.setTop (mkF m 91 _ [(.ref ob)]))
    obtain ⟨T141, X141, e141, st141⟩ := getF X130 hx hZ hown (host := "") (Or.inl (own_w hw 12 rfl)) Via.refl e130 f132 (g := (mkF m 91 #[.val (.ref ob), .val (.int 3), .val (.int x), .val (.double (FP.i2d (sv x))), .second, .val (.int 3), .unset] [(.ref ob)])) rfl rfl (hb hby d9_91)
    refine own_by (fun _ K => st141 _ K) ?_
    show OwnG p e below s _ _ _ (T141.setTop (mkF m 94 _ [(.ref sa)]))
    refine own_by (fun _ K => XS.iload X141.here hx rfl (hb hby d9_94) rfl K) ?_
    show OwnG p e below s _ _ _ (T141.setTop (mkF m 96 _ [(.int 3), (.ref sa)]))
    refine own_by (fun _ K => XS.dloadN X141.here hx rfl (hb hby d9_96) rfl K) ?_
    show OwnG p e below s _ _ _ (T141.setTop (mkF m 97 _ [(.double (FP.i2d (sv x))), (.int 3), (.ref sa)]))
    obtain ⟨T142, h142, X142, e142, W142, A142, st142⟩ := own_stD X141 hx hZ e141 f138 (j := (3 : Int32)) (i := 3) ⟨by decide, rfl, by decide⟩ (g := (mkF m 97 #[.val (.ref ob), .val (.int 3), .val (.int x), .val (.double (FP.i2d (sv x))), .second, .val (.int 3), .unset] [(.double (FP.i2d (sv x))), (.int 3), (.ref sa)])) rfl rfl (hb hby d9_97)
    refine own_by (fun _ K => st142 _ K) ?_
    have f143 := Exa.wr W142 f131
    have f144 := Fld.other W142 f132 (Or.inl Nn.2.2.2.1)
    have f145 := Fld.other W142 f133 (Or.inl Nn.2.2.2.1)
    have f146 := Fld.other W142 f134 (Or.inl Nn.2.2.2.1)
    have f147 := Fld.other W142 f135 (Or.inl Nn.2.2.2.1)
    have f148 := Fld.other W142 f136 (Or.inl Nn.2.2.2.1)
    have f149 := OwnA.other W142 A130 (Ne.symm Nn.2.2.2.2.2.2.1)
    have f151 := OwnA.other W142 f139 (Ne.symm Nn.2.2.2.2.2.2.2.1)
    have f152 := Keep.wr f140 W142 (Or.inl (by simp))
    have N142 := Fr.snoc X142 N130 Nn.2.1
    have sz142 : n0 ≤ h142.size := by rw [W142.size]; exact sz130
    show OwnG p e below s _ _ _ (T142.setTop (mkF m 98 _ []))
    exact own_outV X142 hx hret hlk (hb hby d9_98) (by show _ ∧ _; rw [e142]; exact ⟨rfl, N142, f152, _, _, d0, d1, d2, x, ⟨f143, f144, f145, f146, f147, f148, f149, A142, f151⟩, ⟨t0.1, t0.2.1, t0.2.2⟩, ⟨t1.1, t1.2.1, t1.2.2⟩, ⟨t2.1, t2.2.1, t2.2.2⟩, ⟨rfl, rfl, k_x⟩, (by unfold own_U3; rw [if_neg hK14]; exact ⟨rfl, rfl, rfl, rfl⟩)⟩) (by decide) (by decide)
theorem d8_0 : decode prog_26_method_3_code 0 = .ok (.aload_n 0, 1) := by decide +kernel
theorem d8_1 : decode prog_26_method_3_code 1 = .ok (.getfield 74, 3) := by decide +kernel
theorem d8_4 : decode prog_26_method_3_code 4 = .ok (.aload_n 0, 1) := by decide +kernel
theorem d8_5 : decode prog_26_method_3_code 5 = .ok (.getfield 17, 3) := by decide +kernel
theorem d8_8 : decode prog_26_method_3_code 8 = .ok (.if_icmp .ge 85, 3) := by decide +kernel
theorem d8_11 : decode prog_26_method_3_code 11 = .ok (.aload_n 0, 1) := by decide +kernel
theorem d8_12 : decode prog_26_method_3_code 12 = .ok (.getfield 74, 3) := by decide +kernel
theorem d8_15 : decode prog_26_method_3_code 15 = .ok (.aload_n 0, 1) := by decide +kernel
theorem d8_16 : decode prog_26_method_3_code 16 = .ok (.getfield 7, 3) := by decide +kernel
theorem d8_19 : decode prog_26_method_3_code 19 = .ok (.arraylength, 1) := by decide +kernel
theorem d8_20 : decode prog_26_method_3_code 20 = .ok (.if_icmp .ne 48, 3) := by decide +kernel
theorem d8_23 : decode prog_26_method_3_code 23 = .ok (.aload_n 0, 1) := by decide +kernel
theorem d8_24 : decode prog_26_method_3_code 24 = .ok (.aload_n 0, 1) := by decide +kernel
theorem d8_25 : decode prog_26_method_3_code 25 = .ok (.getfield 7, 3) := by decide +kernel
theorem d8_28 : decode prog_26_method_3_code 28 = .ok (.aload_n 0, 1) := by decide +kernel
theorem d8_29 : decode prog_26_method_3_code 29 = .ok (.getfield 17, 3) := by decide +kernel
theorem d8_32 : decode prog_26_method_3_code 32 = .ok (.i2l, 1) := by decide +kernel
theorem d8_33 : decode prog_26_method_3_code 33 = .ok (.ldc2_w 77, 3) := by decide +kernel
theorem d8_36 : decode prog_26_method_3_code 36 = .ok (.aload_n 0, 1) := by decide +kernel
theorem d8_37 : decode prog_26_method_3_code 37 = .ok (.getfield 74, 3) := by decide +kernel
theorem d8_40 : decode prog_26_method_3_code 40 = .ok (.i2l, 1) := by decide +kernel
theorem d8_41 : decode prog_26_method_3_code 41 = .ok (.lmul, 1) := by decide +kernel
theorem d8_42 : decode prog_26_method_3_code 42 = .ok (.invokestatic 79, 3) := by decide +kernel
theorem d8_45 : decode prog_26_method_3_code 45 = .ok (.l2i, 1) := by decide +kernel
theorem d8_46 : decode prog_26_method_3_code 46 = .ok (.invokestatic 85, 3) := by decide +kernel
theorem d8_49 : decode prog_26_method_3_code 49 = .ok (.putfield 7, 3) := by decide +kernel
theorem d8_52 : decode prog_26_method_3_code 52 = .ok (.aload_n 0, 1) := by decide +kernel
theorem d8_53 : decode prog_26_method_3_code 53 = .ok (.aload_n 0, 1) := by decide +kernel
theorem d8_54 : decode prog_26_method_3_code 54 = .ok (.getfield 13, 3) := by decide +kernel
theorem d8_57 : decode prog_26_method_3_code 57 = .ok (.aload_n 0, 1) := by decide +kernel
theorem d8_58 : decode prog_26_method_3_code 58 = .ok (.getfield 7, 3) := by decide +kernel
theorem d8_61 : decode prog_26_method_3_code 61 = .ok (.arraylength, 1) := by decide +kernel
theorem d8_62 : decode prog_26_method_3_code 62 = .ok (.invokestatic 91, 3) := by decide +kernel
theorem d8_65 : decode prog_26_method_3_code 65 = .ok (.putfield 13, 3) := by decide +kernel
theorem d8_68 : decode prog_26_method_3_code 68 = .ok (.aload_n 0, 1) := by decide +kernel
theorem d8_69 : decode prog_26_method_3_code 69 = .ok (.dup, 1) := by decide +kernel
theorem d8_70 : decode prog_26_method_3_code 70 = .ok (.getfield 74, 3) := by decide +kernel
theorem d8_73 : decode prog_26_method_3_code 73 = .ok (.iconst 1, 1) := by decide +kernel
theorem d8_74 : decode prog_26_method_3_code 74 = .ok (.iadd, 1) := by decide +kernel
theorem d8_75 : decode prog_26_method_3_code 75 = .ok (.putfield 74, 3) := by decide +kernel
theorem d8_78 : decode prog_26_method_3_code 78 = .ok (.aload_n 0, 1) := by decide +kernel
theorem d8_79 : decode prog_26_method_3_code 79 = .ok (.aload_n 0, 1) := by decide +kernel
theorem d8_80 : decode prog_26_method_3_code 80 = .ok (.getfield 74, 3) := by decide +kernel
theorem d8_83 : decode prog_26_method_3_code 83 = .ok (.iconst 1, 1) := by decide +kernel
theorem d8_84 : decode prog_26_method_3_code 84 = .ok (.isub, 1) := by decide +kernel
theorem d8_85 : decode prog_26_method_3_code 85 = .ok (.iload_n 1, 1) := by decide +kernel
theorem d8_86 : decode prog_26_method_3_code 86 = .ok (.dload_n 2, 1) := by decide +kernel
theorem d8_87 : decode prog_26_method_3_code 87 = .ok (.invokevirtual 94, 3) := by decide +kernel
theorem d8_90 : decode prog_26_method_3_code 90 = .ok (.goto 30, 3) := by decide +kernel
theorem d8_93 : decode prog_26_method_3_code 93 = .ok (.aload_n 0, 1) := by decide +kernel
theorem d8_94 : decode prog_26_method_3_code 94 = .ok (.aload_n 0, 1) := by decide +kernel
theorem d8_95 : decode prog_26_method_3_code 95 = .ok (.getfield 13, 3) := by decide +kernel
theorem d8_98 : decode prog_26_method_3_code 98 = .ok (.iconst 0, 1) := by decide +kernel
theorem d8_99 : decode prog_26_method_3_code 99 = .ok (.iaload, 1) := by decide +kernel
theorem d8_100 : decode prog_26_method_3_code 100 = .ok (.aload_n 0, 1) := by decide +kernel
theorem d8_101 : decode prog_26_method_3_code 101 = .ok (.getfield 7, 3) := by decide +kernel
theorem d8_104 : decode prog_26_method_3_code 104 = .ok (.iconst 0, 1) := by decide +kernel
theorem d8_105 : decode prog_26_method_3_code 105 = .ok (.daload, 1) := by decide +kernel
theorem d8_106 : decode prog_26_method_3_code 106 = .ok (.iload_n 1, 1) := by decide +kernel
theorem d8_107 : decode prog_26_method_3_code 107 = .ok (.dload_n 2, 1) := by decide +kernel
theorem d8_108 : decode prog_26_method_3_code 108 = .ok (.invokevirtual 98, 3) := by decide +kernel
theorem d8_111 : decode prog_26_method_3_code 111 = .ok (.ifCond .eq 9, 3) := by decide +kernel
theorem d8_114 : decode prog_26_method_3_code 114 = .ok (.aload_n 0, 1) := by decide +kernel
theorem d8_115 : decode prog_26_method_3_code 115 = .ok (.iload_n 1, 1) := by decide +kernel
theorem d8_116 : decode prog_26_method_3_code 116 = .ok (.dload_n 2, 1) := by decide +kernel
theorem d8_117 : decode prog_26_method_3_code 117 = .ok (.invokevirtual 102, 3) := by decide +kernel
theorem d8_120 : decode prog_26_method_3_code 120 = .ok (.return_, 1) := by decide +kernel
theorem pd_1 : parseMethodDescriptor "(IID)V" = some ⟨[.int, .int, .double], none⟩ := by decide +kernel
theorem pd_2 : parseMethodDescriptor "(ID)V" = some ⟨[.int, .double], none⟩ := by decide +kernel
theorem ef_8o0 (m : MethodId) (x0 : Addr) (x1 : Int32) (x2 : UInt64) : entryFrame m #[(.ref x0), (.int x1), (.double x2)] 4 = mkF m 0 #[.val (.ref x0), .val (.int x1), .val (.double x2), .second] [] := by first | (simp [entryFrame, mkF, argsToLocals, Value.category]; done) | rfl
def Q8o0 (Z : State) (sv pl : Int32 → Int32) (ob sa da pa : Addr) (fd fs fp : Nat → Value) (x : Int32) (h0 : Heap) (n0 : Nat) (v : Option Value) (h : Heap) (L : List Loc) : Prop := v = none ∧ Fr n0 L ∧ Keep h0 h [ob, sa, da] ∧ ∃ fd' fs', ∃ r0 : Int32, own_S Z h ob sa da pa (1 : Int32) fd' fs' fp ∧ own_at sv fd' fs' 0 r0 ∧ r0 = x
set_option maxRecDepth 65536 in
set_option maxHeartbeats 40000000 in
theorem rm8o0 (l : Launch) (Z : State) (a0 : Array Value) (hw : ∀ d ∈ tables_1, d.before a0 Z = true) (ws : List Jvm.Cond) (sv pl : Int32 → Int32) (ob sa da pa : Addr) (fd fs fp : Nat → Value) (x : Int32) (h0 : Heap) (n0 : Nat) (Z0 : n0 ≤ h0.size) (Sb : own_S Z h0 ob sa da pa (0 : Int32) fd fs fp) (Nn : own_N n0 ob sa da pa) (hP : own_P pl fp) (k_x : own_ok x) :
    MetFree l (⟨"com/example/etsinta/etsinta/search/Best", "offer", "(ID)V"⟩ : MethodName) (head1 (Jvm.Cond.code (⟨"com/example/etsinta/etsinta/search/Best", "offer", "(ID)V"⟩ : MethodName) prog_26_method_3_code 4 none :: ws) ({ frames := 2, cells := 0, slots := 0, locals := 36 } : Room)) (fun aa_ U => aa_ = #[(.ref ob), (.int x), (.double (FP.i2d (sv x)))] ∧ Z.Warmed39 U.vm ∧ U.heap = h0) (fun _ _ _ _ _ => True) (fun _ U o U' => ∃ v L, o = .returned v ∧ Q8o0 Z sv pl ob sa da pa fd fs fp x h0 n0 v U'.heap L ∧ FrameEnd U o U' L ({ frames := 2, cells := 0, slots := 0, locals := 36 } : Room).cells ({ frames := 2, cells := 0, slots := 0, locals := 36 } : Room).slots) := by
  refine own_met (Q := fun v h L => Q8o0 Z sv pl ob sa da pa fd fs fp x h0 n0 v h L) (plainFor_of_name pn_0) ?_
  intro p e s m below meth c s₁ hx hby hml hret hlk hown hnm hZ X0 e0
  have N0 := Fr.nil n0
  rw [ef_8o0 m ob x (FP.i2d (sv x))]
  show OwnG p e below s _ _ _ (s₁.setTop (mkF m 0 #[.val (.ref ob), .val (.int x), .val (.double (FP.i2d (sv x))), .second] []))
  refine own_by (fun _ K => XS.aloadN X0.here hx rfl (hb hby d8_0) rfl rfl K) ?_
  show OwnG p e below s _ _ _ (s₁.setTop (mkF m 1 _ [(.ref ob)]))
  obtain ⟨T1, X1, e1, st1⟩ := getF X0 hx hZ hown (host := "") (Or.inl (own_w hw 25 rfl)) Via.refl e0 Sb.2.2.2.2.2.1 (g := (mkF m 1 #[.val (.ref ob), .val (.int x), .val (.double (FP.i2d (sv x))), .second] [(.ref ob)])) rfl rfl (hb hby d8_1)
  refine own_by (fun _ K => st1 _ K) ?_
  show OwnG p e below s _ _ _ (T1.setTop (mkF m 4 _ [(.int 0)]))
  refine own_by (fun _ K => XS.aloadN X1.here hx rfl (hb hby d8_4) rfl rfl K) ?_
  show OwnG p e below s _ _ _ (T1.setTop (mkF m 5 _ [(.ref ob), (.int 0)]))
  obtain ⟨T2, X2, e2, st2⟩ := getF X1 hx hZ hown (host := "") (Or.inl (own_w hw 16 rfl)) Via.refl e1 Sb.2.2.2.1 (g := (mkF m 5 #[.val (.ref ob), .val (.int x), .val (.double (FP.i2d (sv x))), .second] [(.ref ob), (.int 0)])) rfl rfl (hb hby d8_5)
  refine own_by (fun _ K => st2 _ K) ?_
  show OwnG p e below s _ _ _ (T2.setTop (mkF m 8 _ [(.int 4), (.int 0)]))
  refine own_by (fun _ K => XS.icmpNo X2.here hx rfl (hb hby d8_8) rfl (tlt (by decide)).2.1 K) ?_
  show OwnG p e below s _ _ _ (T2.setTop (mkF m 11 _ []))
  refine own_by (fun _ K => XS.aloadN X2.here hx rfl (hb hby d8_11) rfl rfl K) ?_
  show OwnG p e below s _ _ _ (T2.setTop (mkF m 12 _ [(.ref ob)]))
  obtain ⟨T3, X3, e3, st3⟩ := getF X2 hx hZ hown (host := "") (Or.inl (own_w hw 25 rfl)) Via.refl e2 Sb.2.2.2.2.2.1 (g := (mkF m 12 #[.val (.ref ob), .val (.int x), .val (.double (FP.i2d (sv x))), .second] [(.ref ob)])) rfl rfl (hb hby d8_12)
  refine own_by (fun _ K => st3 _ K) ?_
  show OwnG p e below s _ _ _ (T3.setTop (mkF m 15 _ [(.int 0)]))
  refine own_by (fun _ K => XS.aloadN X3.here hx rfl (hb hby d8_15) rfl rfl K) ?_
  show OwnG p e below s _ _ _ (T3.setTop (mkF m 16 _ [(.ref ob), (.int 0)]))
  obtain ⟨T4, X4, e4, st4⟩ := getF X3 hx hZ hown (host := "") (Or.inl (own_w hw 12 rfl)) Via.refl e3 Sb.2.1 (g := (mkF m 16 #[.val (.ref ob), .val (.int x), .val (.double (FP.i2d (sv x))), .second] [(.ref ob), (.int 0)])) rfl rfl (hb hby d8_16)
  refine own_by (fun _ K => st4 _ K) ?_
  show OwnG p e below s _ _ _ (T4.setTop (mkF m 19 _ [(.ref sa), (.int 0)]))
  refine own_by (fun _ K => own_len X4 hx hZ e4 Sb.2.2.2.2.2.2.2.1 (z := (16 : Int32)) rfl (g := (mkF m 19 #[.val (.ref ob), .val (.int x), .val (.double (FP.i2d (sv x))), .second] [(.ref sa), (.int 0)])) rfl rfl (hb hby d8_19) _ K) ?_
  show OwnG p e below s _ _ _ (T4.setTop (mkF m 20 _ [(.int 16), (.int 0)]))
  refine own_by (fun _ K => XS.icmpYes X4.here hx rfl (pc0 := 20) (pc' := 68) rfl (hb hby d8_20) rfl (feq (by decide)).2 (by decide) (by decide) K) ?_
  show OwnG p e below s _ _ _ (T4.setTop (mkF m 68 _ []))
  refine own_by (fun _ K => XS.aloadN X4.here hx rfl (hb hby d8_68) rfl rfl K) ?_
  show OwnG p e below s _ _ _ (T4.setTop (mkF m 69 _ [(.ref ob)]))
  refine own_by (fun _ K => XS.dup X4.here hx rfl (hb hby d8_69) rfl rfl K) ?_
  show OwnG p e below s _ _ _ (T4.setTop (mkF m 70 _ [(.ref ob), (.ref ob)]))
  obtain ⟨T5, X5, e5, st5⟩ := getF X4 hx hZ hown (host := "") (Or.inl (own_w hw 25 rfl)) Via.refl e4 Sb.2.2.2.2.2.1 (g := (mkF m 70 #[.val (.ref ob), .val (.int x), .val (.double (FP.i2d (sv x))), .second] [(.ref ob), (.ref ob)])) rfl rfl (hb hby d8_70)
  refine own_by (fun _ K => st5 _ K) ?_
  show OwnG p e below s _ _ _ (T5.setTop (mkF m 73 _ [(.int 0), (.ref ob)]))
  refine own_by (fun _ K => XS.iconst X5.here hx rfl (hb hby d8_73) K) ?_
  show OwnG p e below s _ _ _ (T5.setTop (mkF m 74 _ [(.int 1), (.int 0), (.ref ob)]))
  refine own_by (fun _ K => XS.iadd X5.here hx rfl (hb hby d8_74) rfl K) ?_
  show OwnG p e below s _ _ _ (T5.setTop (mkF m 75 _ [(.int 1), (.ref ob)]))
  obtain ⟨T6, h6, X6, e6, W6, st6⟩ := putF X5 hx hZ hown (host := "") (Or.inl (own_w hw 25 rfl)) Via.refl e5 Sb.2.2.2.2.2.1 Sb.1 (Or.inl (own_w hw 26 rfl)) (own_w hw 4 rfl) (ty := .int) (by decide) rfl rfl (g := (mkF m 75 #[.val (.ref ob), .val (.int x), .val (.double (FP.i2d (sv x))), .second] [(.int 1), (.ref ob)])) rfl rfl (hb hby d8_75)
  refine own_by (fun _ K => st6 _ K) ?_
  have f7 := Exa.wr W6 Sb.1
  have f8 := Fld.other W6 Sb.2.1 (Or.inr (slot_ne (Or.inl (own_w hw 13 rfl)) (Or.inl (own_w hw 26 rfl)) (by decide) (t := (.array .double)) (t' := .int) (by decide) (by decide)))
  have f9 := Fld.other W6 Sb.2.2.1 (Or.inr (slot_ne (Or.inl (own_w hw 15 rfl)) (Or.inl (own_w hw 26 rfl)) (by decide) (t := (.array .int)) (t' := .int) (by decide) (by decide)))
  have f10 := Fld.other W6 Sb.2.2.2.1 (Or.inr (slot_ne (Or.inr (own_w hw 17 rfl)) (Or.inl (own_w hw 26 rfl)) (by decide) (t := .int) (t' := .int) (by decide) (by decide)))
  have f11 := Fld.other W6 Sb.2.2.2.2.1 (Or.inr (slot_ne (Or.inr (own_w hw 19 rfl)) (Or.inl (own_w hw 26 rfl)) (by decide) (t := (.array .int)) (t' := .int) (by decide) (by decide)))
  have f13 := OwnA.other W6 Sb.2.2.2.2.2.2.1 (Ne.symm Nn.2.2.2.2.1)
  have f14 := OwnA.other W6 Sb.2.2.2.2.2.2.2.1 (Ne.symm Nn.2.2.2.1)
  have f15 := OwnA.other W6 Sb.2.2.2.2.2.2.2.2 (Ne.symm Nn.2.2.2.2.2.1)
  have f16 := Keep.wr (Keep.refl h0 [ob, sa, da]) W6 (Or.inl (by simp))
  have f17 := Fld.same W6 Sb.2.2.2.2.2.1
  have N6 := Fr.snoc X6 N0 Nn.1
  have sz6 : n0 ≤ h6.size := by rw [W6.size]; exact Z0
  show OwnG p e below s _ _ _ (T6.setTop (mkF m 78 _ []))
  refine own_by (fun _ K => XS.aloadN X6.here hx rfl (hb hby d8_78) rfl rfl K) ?_
  show OwnG p e below s _ _ _ (T6.setTop (mkF m 79 _ [(.ref ob)]))
  refine own_by (fun _ K => XS.aloadN X6.here hx rfl (hb hby d8_79) rfl rfl K) ?_
  show OwnG p e below s _ _ _ (T6.setTop (mkF m 80 _ [(.ref ob), (.ref ob)]))
  obtain ⟨T18, X18, e18, st18⟩ := getF X6 hx hZ hown (host := "") (Or.inl (own_w hw 25 rfl)) Via.refl e6 f17 (g := (mkF m 80 #[.val (.ref ob), .val (.int x), .val (.double (FP.i2d (sv x))), .second] [(.ref ob), (.ref ob)])) rfl rfl (hb hby d8_80)
  refine own_by (fun _ K => st18 _ K) ?_
  show OwnG p e below s _ _ _ (T18.setTop (mkF m 83 _ [(.int 1), (.ref ob)]))
  refine own_by (fun _ K => XS.iconst X18.here hx rfl (hb hby d8_83) K) ?_
  show OwnG p e below s _ _ _ (T18.setTop (mkF m 84 _ [(.int 1), (.int 1), (.ref ob)]))
  refine own_by (fun _ K => XS.isub X18.here hx rfl (hb hby d8_84) rfl K) ?_
  show OwnG p e below s _ _ _ (T18.setTop (mkF m 85 _ [(.int 0), (.ref ob)]))
  refine own_by (fun _ K => XS.iloadN X18.here hx rfl (hb hby d8_85) rfl K) ?_
  show OwnG p e below s _ _ _ (T18.setTop (mkF m 86 _ [(.int x), (.int 0), (.ref ob)]))
  refine own_by (fun _ K => XS.dloadN X18.here hx rfl (hb hby d8_86) rfl K) ?_
  show OwnG p e below s _ _ _ (T18.setTop (mkF m 87 _ [(.double (FP.i2d (sv x))), (.int x), (.int 0), (.ref ob)]))
  obtain ⟨cq19, q19, q19'⟩ := Exa.cell f7
  obtain ⟨_, _, ⟨T19, L19, k19, n19⟩, -, X19, ⟨Lc19, hQ19, l19, y19, z19⟩, st19⟩ := X18.privateBack hx (y := (⟨"com/example/etsinta/etsinta/search/Best", "siftUp", "(IID)V"⟩ : MethodName)) hown (mvT hZ (own_w hw 47 rfl)) (mvT hZ (own_w hw 48 rfl)) (own_selp hZ (y := (⟨"com/example/etsinta/etsinta/search/Best", "siftUp", "(IID)V"⟩ : MethodName)) (own_w hw 4 rfl) (own_w hw 49 rfl) (own_w hw 48 rfl) (by decide)) (Cond.privateMethod_at (mvP hZ (own_w hw 49 rfl) (args := #[]))) (mvT hZ (own_w hw 50 rfl)) (by decide) (backOf (W := 0) (rm9u0 l Z a0 hw [] sv pl ob sa da pa (1 : Int32) fd fs fp x h6 n0 sz6 ⟨f7, f8, f9, f10, f11, f17, f13, f14, f15⟩ Nn hP  k_x) hZ (own_w hw 50 rfl) (own_w hw 5 rfl) (by decide) (by decide)) (g := (mkF m 87 #[.val (.ref ob), .val (.int x), .val (.double (FP.i2d (sv x))), .second] [(.double (FP.i2d (sv x))), (.int x), (.int 0), (.ref ob)])) rfl (by rw [hml]; rfl) (Steps.refl _) (a := ob) (by rw [e18]; exact q19) q19' (argsL := [(.int 0), (.int x), (.double (FP.i2d (sv x)))]) (rest := []) (lenOf pd_1 rfl) rfl (by show 2 * 0 + _ ≤ _; exact Nat.le_of_eq rfl) (hb hby d8_87) (fun _ _ => ⟨rfl, e18, (by decide : 0 + 0 ≤ _), (by decide : 0 + 0 ≤ _)⟩)
  dsimp only [Pt.U, Pt.locs, Pt.cells, Pt.slots] at X19 l19 y19 z19 st19 hQ19
  subst l19 y19 z19
  refine own_by (fun _ K => st19.trans K) ?_
  obtain ⟨rfl, N19q, K19, fd19, fs19, r19_0, S19, t19_0, hU19⟩ := hQ19
  have N19 := Fr.app N6 N19q
  have sz19 : n0 ≤ T19.heap.size := Nat.le_trans sz6 K19.1
  have f20 := Exa.keep f7 K19
  have f21 := Keep.trans f16 K19 (allS (Or.inl (by simp)) (allS (Or.inl (by simp)) all0))
  show OwnG p e below s _ _ _ (T19.setTop (mkF m 90 _ []))
  refine own_by (fun _ K => XS.goto X19.here hx rfl (pc0 := 90) (pc' := 120) rfl (hb hby d8_90) (by decide) (by decide) K) ?_
  show OwnG p e below s _ _ _ (T19.setTop (mkF m 120 _ []))
  exact own_outV X19 hx hret hlk (hb hby d8_120) (by show _ ∧ _; rw [(rfl : T19.heap = T19.heap)]; exact ⟨rfl, N19, f21, _, _, r19_0, ⟨S19.1, S19.2.1, S19.2.2.1, S19.2.2.2.1, S19.2.2.2.2.1, S19.2.2.2.2.2.1, S19.2.2.2.2.2.2.1, S19.2.2.2.2.2.2.2.1, S19.2.2.2.2.2.2.2.2⟩, ⟨t19_0.1, t19_0.2.1, t19_0.2.2⟩, hU19⟩) (by decide) (by decide)
theorem ef_8o1 (m : MethodId) (x0 : Addr) (x1 : Int32) (x2 : UInt64) : entryFrame m #[(.ref x0), (.int x1), (.double x2)] 4 = mkF m 0 #[.val (.ref x0), .val (.int x1), .val (.double x2), .second] [] := by first | (simp [entryFrame, mkF, argsToLocals, Value.category]; done) | rfl
def Q8o1 (Z : State) (sv pl : Int32 → Int32) (ob sa da pa : Addr) (fd fs fp : Nat → Value) (d0 x : Int32) (h0 : Heap) (n0 : Nat) (v : Option Value) (h : Heap) (L : List Loc) : Prop := v = none ∧ Fr n0 L ∧ Keep h0 h [ob, sa, da] ∧ ∃ fd' fs', ∃ r0 r1 : Int32, own_S Z h ob sa da pa (2 : Int32) fd' fs' fp ∧ own_at sv fd' fs' 0 r0 ∧ own_at sv fd' fs' 1 r1 ∧ own_U1 (own_K sv pl) d0 x r0 r1
set_option maxRecDepth 65536 in
set_option maxHeartbeats 40000000 in
theorem rm8o1 (l : Launch) (Z : State) (a0 : Array Value) (hw : ∀ d ∈ tables_1, d.before a0 Z = true) (ws : List Jvm.Cond) (sv pl : Int32 → Int32) (ob sa da pa : Addr) (fd fs fp : Nat → Value) (d0 x : Int32) (h0 : Heap) (n0 : Nat) (Z0 : n0 ≤ h0.size) (Sb : own_S Z h0 ob sa da pa (1 : Int32) fd fs fp) (Nn : own_N n0 ob sa da pa) (hP : own_P pl fp) (t0 : own_at sv fd fs 0 d0) (k_x : own_ok x) :
    MetFree l (⟨"com/example/etsinta/etsinta/search/Best", "offer", "(ID)V"⟩ : MethodName) (head1 (Jvm.Cond.code (⟨"com/example/etsinta/etsinta/search/Best", "offer", "(ID)V"⟩ : MethodName) prog_26_method_3_code 4 none :: ws) ({ frames := 2, cells := 0, slots := 0, locals := 36 } : Room)) (fun aa_ U => aa_ = #[(.ref ob), (.int x), (.double (FP.i2d (sv x)))] ∧ Z.Warmed39 U.vm ∧ U.heap = h0) (fun _ _ _ _ _ => True) (fun _ U o U' => ∃ v L, o = .returned v ∧ Q8o1 Z sv pl ob sa da pa fd fs fp d0 x h0 n0 v U'.heap L ∧ FrameEnd U o U' L ({ frames := 2, cells := 0, slots := 0, locals := 36 } : Room).cells ({ frames := 2, cells := 0, slots := 0, locals := 36 } : Room).slots) := by
  refine own_met (Q := fun v h L => Q8o1 Z sv pl ob sa da pa fd fs fp d0 x h0 n0 v h L) (plainFor_of_name pn_0) ?_
  intro p e s m below meth c s₁ hx hby hml hret hlk hown hnm hZ X0 e0
  have N0 := Fr.nil n0
  rw [ef_8o1 m ob x (FP.i2d (sv x))]
  show OwnG p e below s _ _ _ (s₁.setTop (mkF m 0 #[.val (.ref ob), .val (.int x), .val (.double (FP.i2d (sv x))), .second] []))
  refine own_by (fun _ K => XS.aloadN X0.here hx rfl (hb hby d8_0) rfl rfl K) ?_
  show OwnG p e below s _ _ _ (s₁.setTop (mkF m 1 _ [(.ref ob)]))
  obtain ⟨T1, X1, e1, st1⟩ := getF X0 hx hZ hown (host := "") (Or.inl (own_w hw 25 rfl)) Via.refl e0 Sb.2.2.2.2.2.1 (g := (mkF m 1 #[.val (.ref ob), .val (.int x), .val (.double (FP.i2d (sv x))), .second] [(.ref ob)])) rfl rfl (hb hby d8_1)
  refine own_by (fun _ K => st1 _ K) ?_
  show OwnG p e below s _ _ _ (T1.setTop (mkF m 4 _ [(.int 1)]))
  refine own_by (fun _ K => XS.aloadN X1.here hx rfl (hb hby d8_4) rfl rfl K) ?_
  show OwnG p e below s _ _ _ (T1.setTop (mkF m 5 _ [(.ref ob), (.int 1)]))
  obtain ⟨T2, X2, e2, st2⟩ := getF X1 hx hZ hown (host := "") (Or.inl (own_w hw 16 rfl)) Via.refl e1 Sb.2.2.2.1 (g := (mkF m 5 #[.val (.ref ob), .val (.int x), .val (.double (FP.i2d (sv x))), .second] [(.ref ob), (.int 1)])) rfl rfl (hb hby d8_5)
  refine own_by (fun _ K => st2 _ K) ?_
  show OwnG p e below s _ _ _ (T2.setTop (mkF m 8 _ [(.int 4), (.int 1)]))
  refine own_by (fun _ K => XS.icmpNo X2.here hx rfl (hb hby d8_8) rfl (tlt (by decide)).2.1 K) ?_
  show OwnG p e below s _ _ _ (T2.setTop (mkF m 11 _ []))
  refine own_by (fun _ K => XS.aloadN X2.here hx rfl (hb hby d8_11) rfl rfl K) ?_
  show OwnG p e below s _ _ _ (T2.setTop (mkF m 12 _ [(.ref ob)]))
  obtain ⟨T3, X3, e3, st3⟩ := getF X2 hx hZ hown (host := "") (Or.inl (own_w hw 25 rfl)) Via.refl e2 Sb.2.2.2.2.2.1 (g := (mkF m 12 #[.val (.ref ob), .val (.int x), .val (.double (FP.i2d (sv x))), .second] [(.ref ob)])) rfl rfl (hb hby d8_12)
  refine own_by (fun _ K => st3 _ K) ?_
  show OwnG p e below s _ _ _ (T3.setTop (mkF m 15 _ [(.int 1)]))
  refine own_by (fun _ K => XS.aloadN X3.here hx rfl (hb hby d8_15) rfl rfl K) ?_
  show OwnG p e below s _ _ _ (T3.setTop (mkF m 16 _ [(.ref ob), (.int 1)]))
  obtain ⟨T4, X4, e4, st4⟩ := getF X3 hx hZ hown (host := "") (Or.inl (own_w hw 12 rfl)) Via.refl e3 Sb.2.1 (g := (mkF m 16 #[.val (.ref ob), .val (.int x), .val (.double (FP.i2d (sv x))), .second] [(.ref ob), (.int 1)])) rfl rfl (hb hby d8_16)
  refine own_by (fun _ K => st4 _ K) ?_
  show OwnG p e below s _ _ _ (T4.setTop (mkF m 19 _ [(.ref sa), (.int 1)]))
  refine own_by (fun _ K => own_len X4 hx hZ e4 Sb.2.2.2.2.2.2.2.1 (z := (16 : Int32)) rfl (g := (mkF m 19 #[.val (.ref ob), .val (.int x), .val (.double (FP.i2d (sv x))), .second] [(.ref sa), (.int 1)])) rfl rfl (hb hby d8_19) _ K) ?_
  show OwnG p e below s _ _ _ (T4.setTop (mkF m 20 _ [(.int 16), (.int 1)]))
  refine own_by (fun _ K => XS.icmpYes X4.here hx rfl (pc0 := 20) (pc' := 68) rfl (hb hby d8_20) rfl (feq (by decide)).2 (by decide) (by decide) K) ?_
  show OwnG p e below s _ _ _ (T4.setTop (mkF m 68 _ []))
  refine own_by (fun _ K => XS.aloadN X4.here hx rfl (hb hby d8_68) rfl rfl K) ?_
  show OwnG p e below s _ _ _ (T4.setTop (mkF m 69 _ [(.ref ob)]))
  refine own_by (fun _ K => XS.dup X4.here hx rfl (hb hby d8_69) rfl rfl K) ?_
  show OwnG p e below s _ _ _ (T4.setTop (mkF m 70 _ [(.ref ob), (.ref ob)]))
  obtain ⟨T5, X5, e5, st5⟩ := getF X4 hx hZ hown (host := "") (Or.inl (own_w hw 25 rfl)) Via.refl e4 Sb.2.2.2.2.2.1 (g := (mkF m 70 #[.val (.ref ob), .val (.int x), .val (.double (FP.i2d (sv x))), .second] [(.ref ob), (.ref ob)])) rfl rfl (hb hby d8_70)
  refine own_by (fun _ K => st5 _ K) ?_
  show OwnG p e below s _ _ _ (T5.setTop (mkF m 73 _ [(.int 1), (.ref ob)]))
  refine own_by (fun _ K => XS.iconst X5.here hx rfl (hb hby d8_73) K) ?_
  show OwnG p e below s _ _ _ (T5.setTop (mkF m 74 _ [(.int 1), (.int 1), (.ref ob)]))
  refine own_by (fun _ K => XS.iadd X5.here hx rfl (hb hby d8_74) rfl K) ?_
  show OwnG p e below s _ _ _ (T5.setTop (mkF m 75 _ [(.int 2), (.ref ob)]))
  obtain ⟨T6, h6, X6, e6, W6, st6⟩ := putF X5 hx hZ hown (host := "") (Or.inl (own_w hw 25 rfl)) Via.refl e5 Sb.2.2.2.2.2.1 Sb.1 (Or.inl (own_w hw 26 rfl)) (own_w hw 4 rfl) (ty := .int) (by decide) rfl rfl (g := (mkF m 75 #[.val (.ref ob), .val (.int x), .val (.double (FP.i2d (sv x))), .second] [(.int 2), (.ref ob)])) rfl rfl (hb hby d8_75)
  refine own_by (fun _ K => st6 _ K) ?_
  have f7 := Exa.wr W6 Sb.1
  have f8 := Fld.other W6 Sb.2.1 (Or.inr (slot_ne (Or.inl (own_w hw 13 rfl)) (Or.inl (own_w hw 26 rfl)) (by decide) (t := (.array .double)) (t' := .int) (by decide) (by decide)))
  have f9 := Fld.other W6 Sb.2.2.1 (Or.inr (slot_ne (Or.inl (own_w hw 15 rfl)) (Or.inl (own_w hw 26 rfl)) (by decide) (t := (.array .int)) (t' := .int) (by decide) (by decide)))
  have f10 := Fld.other W6 Sb.2.2.2.1 (Or.inr (slot_ne (Or.inr (own_w hw 17 rfl)) (Or.inl (own_w hw 26 rfl)) (by decide) (t := .int) (t' := .int) (by decide) (by decide)))
  have f11 := Fld.other W6 Sb.2.2.2.2.1 (Or.inr (slot_ne (Or.inr (own_w hw 19 rfl)) (Or.inl (own_w hw 26 rfl)) (by decide) (t := (.array .int)) (t' := .int) (by decide) (by decide)))
  have f13 := OwnA.other W6 Sb.2.2.2.2.2.2.1 (Ne.symm Nn.2.2.2.2.1)
  have f14 := OwnA.other W6 Sb.2.2.2.2.2.2.2.1 (Ne.symm Nn.2.2.2.1)
  have f15 := OwnA.other W6 Sb.2.2.2.2.2.2.2.2 (Ne.symm Nn.2.2.2.2.2.1)
  have f16 := Keep.wr (Keep.refl h0 [ob, sa, da]) W6 (Or.inl (by simp))
  have f17 := Fld.same W6 Sb.2.2.2.2.2.1
  have N6 := Fr.snoc X6 N0 Nn.1
  have sz6 : n0 ≤ h6.size := by rw [W6.size]; exact Z0
  show OwnG p e below s _ _ _ (T6.setTop (mkF m 78 _ []))
  refine own_by (fun _ K => XS.aloadN X6.here hx rfl (hb hby d8_78) rfl rfl K) ?_
  show OwnG p e below s _ _ _ (T6.setTop (mkF m 79 _ [(.ref ob)]))
  refine own_by (fun _ K => XS.aloadN X6.here hx rfl (hb hby d8_79) rfl rfl K) ?_
  show OwnG p e below s _ _ _ (T6.setTop (mkF m 80 _ [(.ref ob), (.ref ob)]))
  obtain ⟨T18, X18, e18, st18⟩ := getF X6 hx hZ hown (host := "") (Or.inl (own_w hw 25 rfl)) Via.refl e6 f17 (g := (mkF m 80 #[.val (.ref ob), .val (.int x), .val (.double (FP.i2d (sv x))), .second] [(.ref ob), (.ref ob)])) rfl rfl (hb hby d8_80)
  refine own_by (fun _ K => st18 _ K) ?_
  show OwnG p e below s _ _ _ (T18.setTop (mkF m 83 _ [(.int 2), (.ref ob)]))
  refine own_by (fun _ K => XS.iconst X18.here hx rfl (hb hby d8_83) K) ?_
  show OwnG p e below s _ _ _ (T18.setTop (mkF m 84 _ [(.int 1), (.int 2), (.ref ob)]))
  refine own_by (fun _ K => XS.isub X18.here hx rfl (hb hby d8_84) rfl K) ?_
  show OwnG p e below s _ _ _ (T18.setTop (mkF m 85 _ [(.int 1), (.ref ob)]))
  refine own_by (fun _ K => XS.iloadN X18.here hx rfl (hb hby d8_85) rfl K) ?_
  show OwnG p e below s _ _ _ (T18.setTop (mkF m 86 _ [(.int x), (.int 1), (.ref ob)]))
  refine own_by (fun _ K => XS.dloadN X18.here hx rfl (hb hby d8_86) rfl K) ?_
  show OwnG p e below s _ _ _ (T18.setTop (mkF m 87 _ [(.double (FP.i2d (sv x))), (.int x), (.int 1), (.ref ob)]))
  obtain ⟨cq19, q19, q19'⟩ := Exa.cell f7
  obtain ⟨_, _, ⟨T19, L19, k19, n19⟩, -, X19, ⟨Lc19, hQ19, l19, y19, z19⟩, st19⟩ := X18.privateBack hx (y := (⟨"com/example/etsinta/etsinta/search/Best", "siftUp", "(IID)V"⟩ : MethodName)) hown (mvT hZ (own_w hw 47 rfl)) (mvT hZ (own_w hw 48 rfl)) (own_selp hZ (y := (⟨"com/example/etsinta/etsinta/search/Best", "siftUp", "(IID)V"⟩ : MethodName)) (own_w hw 4 rfl) (own_w hw 49 rfl) (own_w hw 48 rfl) (by decide)) (Cond.privateMethod_at (mvP hZ (own_w hw 49 rfl) (args := #[]))) (mvT hZ (own_w hw 50 rfl)) (by decide) (backOf (W := 0) (rm9u1 l Z a0 hw [] sv pl ob sa da pa (2 : Int32) fd fs fp d0 x h6 n0 sz6 ⟨f7, f8, f9, f10, f11, f17, f13, f14, f15⟩ Nn hP ⟨t0.1, t0.2.1, t0.2.2⟩ k_x) hZ (own_w hw 50 rfl) (own_w hw 5 rfl) (by decide) (by decide)) (g := (mkF m 87 #[.val (.ref ob), .val (.int x), .val (.double (FP.i2d (sv x))), .second] [(.double (FP.i2d (sv x))), (.int x), (.int 1), (.ref ob)])) rfl (by rw [hml]; rfl) (Steps.refl _) (a := ob) (by rw [e18]; exact q19) q19' (argsL := [(.int 1), (.int x), (.double (FP.i2d (sv x)))]) (rest := []) (lenOf pd_1 rfl) rfl (by show 2 * 0 + _ ≤ _; exact Nat.le_of_eq rfl) (hb hby d8_87) (fun _ _ => ⟨rfl, e18, (by decide : 0 + 0 ≤ _), (by decide : 0 + 0 ≤ _)⟩)
  dsimp only [Pt.U, Pt.locs, Pt.cells, Pt.slots] at X19 l19 y19 z19 st19 hQ19
  subst l19 y19 z19
  refine own_by (fun _ K => st19.trans K) ?_
  obtain ⟨rfl, N19q, K19, fd19, fs19, r19_0, r19_1, S19, t19_0, t19_1, hU19⟩ := hQ19
  have N19 := Fr.app N6 N19q
  have sz19 : n0 ≤ T19.heap.size := Nat.le_trans sz6 K19.1
  have f20 := Exa.keep f7 K19
  have f21 := Keep.trans f16 K19 (allS (Or.inl (by simp)) (allS (Or.inl (by simp)) all0))
  show OwnG p e below s _ _ _ (T19.setTop (mkF m 90 _ []))
  refine own_by (fun _ K => XS.goto X19.here hx rfl (pc0 := 90) (pc' := 120) rfl (hb hby d8_90) (by decide) (by decide) K) ?_
  show OwnG p e below s _ _ _ (T19.setTop (mkF m 120 _ []))
  exact own_outV X19 hx hret hlk (hb hby d8_120) (by show _ ∧ _; rw [(rfl : T19.heap = T19.heap)]; exact ⟨rfl, N19, f21, _, _, r19_0, r19_1, ⟨S19.1, S19.2.1, S19.2.2.1, S19.2.2.2.1, S19.2.2.2.2.1, S19.2.2.2.2.2.1, S19.2.2.2.2.2.2.1, S19.2.2.2.2.2.2.2.1, S19.2.2.2.2.2.2.2.2⟩, ⟨t19_0.1, t19_0.2.1, t19_0.2.2⟩, ⟨t19_1.1, t19_1.2.1, t19_1.2.2⟩, hU19⟩) (by decide) (by decide)
theorem ef_8o2 (m : MethodId) (x0 : Addr) (x1 : Int32) (x2 : UInt64) : entryFrame m #[(.ref x0), (.int x1), (.double x2)] 4 = mkF m 0 #[.val (.ref x0), .val (.int x1), .val (.double x2), .second] [] := by first | (simp [entryFrame, mkF, argsToLocals, Value.category]; done) | rfl
def Q8o2 (Z : State) (sv pl : Int32 → Int32) (ob sa da pa : Addr) (fd fs fp : Nat → Value) (d0 d1 x : Int32) (h0 : Heap) (n0 : Nat) (v : Option Value) (h : Heap) (L : List Loc) : Prop := v = none ∧ Fr n0 L ∧ Keep h0 h [ob, sa, da] ∧ ∃ fd' fs', ∃ r0 r1 r2 : Int32, own_S Z h ob sa da pa (3 : Int32) fd' fs' fp ∧ own_at sv fd' fs' 0 r0 ∧ own_at sv fd' fs' 1 r1 ∧ own_at sv fd' fs' 2 r2 ∧ own_U2 (own_K sv pl) d0 d1 x r0 r1 r2
set_option maxRecDepth 65536 in
set_option maxHeartbeats 40000000 in
theorem rm8o2 (l : Launch) (Z : State) (a0 : Array Value) (hw : ∀ d ∈ tables_1, d.before a0 Z = true) (ws : List Jvm.Cond) (sv pl : Int32 → Int32) (ob sa da pa : Addr) (fd fs fp : Nat → Value) (d0 d1 x : Int32) (h0 : Heap) (n0 : Nat) (Z0 : n0 ≤ h0.size) (Sb : own_S Z h0 ob sa da pa (2 : Int32) fd fs fp) (Nn : own_N n0 ob sa da pa) (hP : own_P pl fp) (t0 : own_at sv fd fs 0 d0) (t1 : own_at sv fd fs 1 d1) (k_x : own_ok x) :
    MetFree l (⟨"com/example/etsinta/etsinta/search/Best", "offer", "(ID)V"⟩ : MethodName) (head1 (Jvm.Cond.code (⟨"com/example/etsinta/etsinta/search/Best", "offer", "(ID)V"⟩ : MethodName) prog_26_method_3_code 4 none :: ws) ({ frames := 2, cells := 0, slots := 0, locals := 36 } : Room)) (fun aa_ U => aa_ = #[(.ref ob), (.int x), (.double (FP.i2d (sv x)))] ∧ Z.Warmed39 U.vm ∧ U.heap = h0) (fun _ _ _ _ _ => True) (fun _ U o U' => ∃ v L, o = .returned v ∧ Q8o2 Z sv pl ob sa da pa fd fs fp d0 d1 x h0 n0 v U'.heap L ∧ FrameEnd U o U' L ({ frames := 2, cells := 0, slots := 0, locals := 36 } : Room).cells ({ frames := 2, cells := 0, slots := 0, locals := 36 } : Room).slots) := by
  refine own_met (Q := fun v h L => Q8o2 Z sv pl ob sa da pa fd fs fp d0 d1 x h0 n0 v h L) (plainFor_of_name pn_0) ?_
  intro p e s m below meth c s₁ hx hby hml hret hlk hown hnm hZ X0 e0
  have N0 := Fr.nil n0
  rw [ef_8o2 m ob x (FP.i2d (sv x))]
  show OwnG p e below s _ _ _ (s₁.setTop (mkF m 0 #[.val (.ref ob), .val (.int x), .val (.double (FP.i2d (sv x))), .second] []))
  refine own_by (fun _ K => XS.aloadN X0.here hx rfl (hb hby d8_0) rfl rfl K) ?_
  show OwnG p e below s _ _ _ (s₁.setTop (mkF m 1 _ [(.ref ob)]))
  obtain ⟨T1, X1, e1, st1⟩ := getF X0 hx hZ hown (host := "") (Or.inl (own_w hw 25 rfl)) Via.refl e0 Sb.2.2.2.2.2.1 (g := (mkF m 1 #[.val (.ref ob), .val (.int x), .val (.double (FP.i2d (sv x))), .second] [(.ref ob)])) rfl rfl (hb hby d8_1)
  refine own_by (fun _ K => st1 _ K) ?_
  show OwnG p e below s _ _ _ (T1.setTop (mkF m 4 _ [(.int 2)]))
  refine own_by (fun _ K => XS.aloadN X1.here hx rfl (hb hby d8_4) rfl rfl K) ?_
  show OwnG p e below s _ _ _ (T1.setTop (mkF m 5 _ [(.ref ob), (.int 2)]))
  obtain ⟨T2, X2, e2, st2⟩ := getF X1 hx hZ hown (host := "") (Or.inl (own_w hw 16 rfl)) Via.refl e1 Sb.2.2.2.1 (g := (mkF m 5 #[.val (.ref ob), .val (.int x), .val (.double (FP.i2d (sv x))), .second] [(.ref ob), (.int 2)])) rfl rfl (hb hby d8_5)
  refine own_by (fun _ K => st2 _ K) ?_
  show OwnG p e below s _ _ _ (T2.setTop (mkF m 8 _ [(.int 4), (.int 2)]))
  refine own_by (fun _ K => XS.icmpNo X2.here hx rfl (hb hby d8_8) rfl (tlt (by decide)).2.1 K) ?_
  show OwnG p e below s _ _ _ (T2.setTop (mkF m 11 _ []))
  refine own_by (fun _ K => XS.aloadN X2.here hx rfl (hb hby d8_11) rfl rfl K) ?_
  show OwnG p e below s _ _ _ (T2.setTop (mkF m 12 _ [(.ref ob)]))
  obtain ⟨T3, X3, e3, st3⟩ := getF X2 hx hZ hown (host := "") (Or.inl (own_w hw 25 rfl)) Via.refl e2 Sb.2.2.2.2.2.1 (g := (mkF m 12 #[.val (.ref ob), .val (.int x), .val (.double (FP.i2d (sv x))), .second] [(.ref ob)])) rfl rfl (hb hby d8_12)
  refine own_by (fun _ K => st3 _ K) ?_
  show OwnG p e below s _ _ _ (T3.setTop (mkF m 15 _ [(.int 2)]))
  refine own_by (fun _ K => XS.aloadN X3.here hx rfl (hb hby d8_15) rfl rfl K) ?_
  show OwnG p e below s _ _ _ (T3.setTop (mkF m 16 _ [(.ref ob), (.int 2)]))
  obtain ⟨T4, X4, e4, st4⟩ := getF X3 hx hZ hown (host := "") (Or.inl (own_w hw 12 rfl)) Via.refl e3 Sb.2.1 (g := (mkF m 16 #[.val (.ref ob), .val (.int x), .val (.double (FP.i2d (sv x))), .second] [(.ref ob), (.int 2)])) rfl rfl (hb hby d8_16)
  refine own_by (fun _ K => st4 _ K) ?_
  show OwnG p e below s _ _ _ (T4.setTop (mkF m 19 _ [(.ref sa), (.int 2)]))
  refine own_by (fun _ K => own_len X4 hx hZ e4 Sb.2.2.2.2.2.2.2.1 (z := (16 : Int32)) rfl (g := (mkF m 19 #[.val (.ref ob), .val (.int x), .val (.double (FP.i2d (sv x))), .second] [(.ref sa), (.int 2)])) rfl rfl (hb hby d8_19) _ K) ?_
  show OwnG p e below s _ _ _ (T4.setTop (mkF m 20 _ [(.int 16), (.int 2)]))
  refine own_by (fun _ K => XS.icmpYes X4.here hx rfl (pc0 := 20) (pc' := 68) rfl (hb hby d8_20) rfl (feq (by decide)).2 (by decide) (by decide) K) ?_
  show OwnG p e below s _ _ _ (T4.setTop (mkF m 68 _ []))
  refine own_by (fun _ K => XS.aloadN X4.here hx rfl (hb hby d8_68) rfl rfl K) ?_
  show OwnG p e below s _ _ _ (T4.setTop (mkF m 69 _ [(.ref ob)]))
  refine own_by (fun _ K => XS.dup X4.here hx rfl (hb hby d8_69) rfl rfl K) ?_
  show OwnG p e below s _ _ _ (T4.setTop (mkF m 70 _ [(.ref ob), (.ref ob)]))
  obtain ⟨T5, X5, e5, st5⟩ := getF X4 hx hZ hown (host := "") (Or.inl (own_w hw 25 rfl)) Via.refl e4 Sb.2.2.2.2.2.1 (g := (mkF m 70 #[.val (.ref ob), .val (.int x), .val (.double (FP.i2d (sv x))), .second] [(.ref ob), (.ref ob)])) rfl rfl (hb hby d8_70)
  refine own_by (fun _ K => st5 _ K) ?_
  show OwnG p e below s _ _ _ (T5.setTop (mkF m 73 _ [(.int 2), (.ref ob)]))
  refine own_by (fun _ K => XS.iconst X5.here hx rfl (hb hby d8_73) K) ?_
  show OwnG p e below s _ _ _ (T5.setTop (mkF m 74 _ [(.int 1), (.int 2), (.ref ob)]))
  refine own_by (fun _ K => XS.iadd X5.here hx rfl (hb hby d8_74) rfl K) ?_
  show OwnG p e below s _ _ _ (T5.setTop (mkF m 75 _ [(.int 3), (.ref ob)]))
  obtain ⟨T6, h6, X6, e6, W6, st6⟩ := putF X5 hx hZ hown (host := "") (Or.inl (own_w hw 25 rfl)) Via.refl e5 Sb.2.2.2.2.2.1 Sb.1 (Or.inl (own_w hw 26 rfl)) (own_w hw 4 rfl) (ty := .int) (by decide) rfl rfl (g := (mkF m 75 #[.val (.ref ob), .val (.int x), .val (.double (FP.i2d (sv x))), .second] [(.int 3), (.ref ob)])) rfl rfl (hb hby d8_75)
  refine own_by (fun _ K => st6 _ K) ?_
  have f7 := Exa.wr W6 Sb.1
  have f8 := Fld.other W6 Sb.2.1 (Or.inr (slot_ne (Or.inl (own_w hw 13 rfl)) (Or.inl (own_w hw 26 rfl)) (by decide) (t := (.array .double)) (t' := .int) (by decide) (by decide)))
  have f9 := Fld.other W6 Sb.2.2.1 (Or.inr (slot_ne (Or.inl (own_w hw 15 rfl)) (Or.inl (own_w hw 26 rfl)) (by decide) (t := (.array .int)) (t' := .int) (by decide) (by decide)))
  have f10 := Fld.other W6 Sb.2.2.2.1 (Or.inr (slot_ne (Or.inr (own_w hw 17 rfl)) (Or.inl (own_w hw 26 rfl)) (by decide) (t := .int) (t' := .int) (by decide) (by decide)))
  have f11 := Fld.other W6 Sb.2.2.2.2.1 (Or.inr (slot_ne (Or.inr (own_w hw 19 rfl)) (Or.inl (own_w hw 26 rfl)) (by decide) (t := (.array .int)) (t' := .int) (by decide) (by decide)))
  have f13 := OwnA.other W6 Sb.2.2.2.2.2.2.1 (Ne.symm Nn.2.2.2.2.1)
  have f14 := OwnA.other W6 Sb.2.2.2.2.2.2.2.1 (Ne.symm Nn.2.2.2.1)
  have f15 := OwnA.other W6 Sb.2.2.2.2.2.2.2.2 (Ne.symm Nn.2.2.2.2.2.1)
  have f16 := Keep.wr (Keep.refl h0 [ob, sa, da]) W6 (Or.inl (by simp))
  have f17 := Fld.same W6 Sb.2.2.2.2.2.1
  have N6 := Fr.snoc X6 N0 Nn.1
  have sz6 : n0 ≤ h6.size := by rw [W6.size]; exact Z0
  show OwnG p e below s _ _ _ (T6.setTop (mkF m 78 _ []))
  refine own_by (fun _ K => XS.aloadN X6.here hx rfl (hb hby d8_78) rfl rfl K) ?_
  show OwnG p e below s _ _ _ (T6.setTop (mkF m 79 _ [(.ref ob)]))
  refine own_by (fun _ K => XS.aloadN X6.here hx rfl (hb hby d8_79) rfl rfl K) ?_
  show OwnG p e below s _ _ _ (T6.setTop (mkF m 80 _ [(.ref ob), (.ref ob)]))
  obtain ⟨T18, X18, e18, st18⟩ := getF X6 hx hZ hown (host := "") (Or.inl (own_w hw 25 rfl)) Via.refl e6 f17 (g := (mkF m 80 #[.val (.ref ob), .val (.int x), .val (.double (FP.i2d (sv x))), .second] [(.ref ob), (.ref ob)])) rfl rfl (hb hby d8_80)
  refine own_by (fun _ K => st18 _ K) ?_
  show OwnG p e below s _ _ _ (T18.setTop (mkF m 83 _ [(.int 3), (.ref ob)]))
  refine own_by (fun _ K => XS.iconst X18.here hx rfl (hb hby d8_83) K) ?_
  show OwnG p e below s _ _ _ (T18.setTop (mkF m 84 _ [(.int 1), (.int 3), (.ref ob)]))
  refine own_by (fun _ K => XS.isub X18.here hx rfl (hb hby d8_84) rfl K) ?_
  show OwnG p e below s _ _ _ (T18.setTop (mkF m 85 _ [(.int 2), (.ref ob)]))
  refine own_by (fun _ K => XS.iloadN X18.here hx rfl (hb hby d8_85) rfl K) ?_
  show OwnG p e below s _ _ _ (T18.setTop (mkF m 86 _ [(.int x), (.int 2), (.ref ob)]))
  refine own_by (fun _ K => XS.dloadN X18.here hx rfl (hb hby d8_86) rfl K) ?_
  show OwnG p e below s _ _ _ (T18.setTop (mkF m 87 _ [(.double (FP.i2d (sv x))), (.int x), (.int 2), (.ref ob)]))
  obtain ⟨cq19, q19, q19'⟩ := Exa.cell f7
  obtain ⟨_, _, ⟨T19, L19, k19, n19⟩, -, X19, ⟨Lc19, hQ19, l19, y19, z19⟩, st19⟩ := X18.privateBack hx (y := (⟨"com/example/etsinta/etsinta/search/Best", "siftUp", "(IID)V"⟩ : MethodName)) hown (mvT hZ (own_w hw 47 rfl)) (mvT hZ (own_w hw 48 rfl)) (own_selp hZ (y := (⟨"com/example/etsinta/etsinta/search/Best", "siftUp", "(IID)V"⟩ : MethodName)) (own_w hw 4 rfl) (own_w hw 49 rfl) (own_w hw 48 rfl) (by decide)) (Cond.privateMethod_at (mvP hZ (own_w hw 49 rfl) (args := #[]))) (mvT hZ (own_w hw 50 rfl)) (by decide) (backOf (W := 0) (rm9u2 l Z a0 hw [] sv pl ob sa da pa (3 : Int32) fd fs fp d0 d1 x h6 n0 sz6 ⟨f7, f8, f9, f10, f11, f17, f13, f14, f15⟩ Nn hP ⟨t0.1, t0.2.1, t0.2.2⟩ ⟨t1.1, t1.2.1, t1.2.2⟩ k_x) hZ (own_w hw 50 rfl) (own_w hw 5 rfl) (by decide) (by decide)) (g := (mkF m 87 #[.val (.ref ob), .val (.int x), .val (.double (FP.i2d (sv x))), .second] [(.double (FP.i2d (sv x))), (.int x), (.int 2), (.ref ob)])) rfl (by rw [hml]; rfl) (Steps.refl _) (a := ob) (by rw [e18]; exact q19) q19' (argsL := [(.int 2), (.int x), (.double (FP.i2d (sv x)))]) (rest := []) (lenOf pd_1 rfl) rfl (by show 2 * 0 + _ ≤ _; exact Nat.le_of_eq rfl) (hb hby d8_87) (fun _ _ => ⟨rfl, e18, (by decide : 0 + 0 ≤ _), (by decide : 0 + 0 ≤ _)⟩)
  dsimp only [Pt.U, Pt.locs, Pt.cells, Pt.slots] at X19 l19 y19 z19 st19 hQ19
  subst l19 y19 z19
  refine own_by (fun _ K => st19.trans K) ?_
  obtain ⟨rfl, N19q, K19, fd19, fs19, r19_0, r19_1, r19_2, S19, t19_0, t19_1, t19_2, hU19⟩ := hQ19
  have N19 := Fr.app N6 N19q
  have sz19 : n0 ≤ T19.heap.size := Nat.le_trans sz6 K19.1
  have f20 := Exa.keep f7 K19
  have f21 := Keep.trans f16 K19 (allS (Or.inl (by simp)) (allS (Or.inl (by simp)) all0))
  show OwnG p e below s _ _ _ (T19.setTop (mkF m 90 _ []))
  refine own_by (fun _ K => XS.goto X19.here hx rfl (pc0 := 90) (pc' := 120) rfl (hb hby d8_90) (by decide) (by decide) K) ?_
  show OwnG p e below s _ _ _ (T19.setTop (mkF m 120 _ []))
  exact own_outV X19 hx hret hlk (hb hby d8_120) (by show _ ∧ _; rw [(rfl : T19.heap = T19.heap)]; exact ⟨rfl, N19, f21, _, _, r19_0, r19_1, r19_2, ⟨S19.1, S19.2.1, S19.2.2.1, S19.2.2.2.1, S19.2.2.2.2.1, S19.2.2.2.2.2.1, S19.2.2.2.2.2.2.1, S19.2.2.2.2.2.2.2.1, S19.2.2.2.2.2.2.2.2⟩, ⟨t19_0.1, t19_0.2.1, t19_0.2.2⟩, ⟨t19_1.1, t19_1.2.1, t19_1.2.2⟩, ⟨t19_2.1, t19_2.2.1, t19_2.2.2⟩, hU19⟩) (by decide) (by decide)
theorem ef_8o3 (m : MethodId) (x0 : Addr) (x1 : Int32) (x2 : UInt64) : entryFrame m #[(.ref x0), (.int x1), (.double x2)] 4 = mkF m 0 #[.val (.ref x0), .val (.int x1), .val (.double x2), .second] [] := by first | (simp [entryFrame, mkF, argsToLocals, Value.category]; done) | rfl
def Q8o3 (Z : State) (sv pl : Int32 → Int32) (ob sa da pa : Addr) (fd fs fp : Nat → Value) (d0 d1 d2 x : Int32) (h0 : Heap) (n0 : Nat) (v : Option Value) (h : Heap) (L : List Loc) : Prop := v = none ∧ Fr n0 L ∧ Keep h0 h [ob, sa, da] ∧ ∃ fd' fs', ∃ r0 r1 r2 r3 : Int32, own_S Z h ob sa da pa (4 : Int32) fd' fs' fp ∧ own_at sv fd' fs' 0 r0 ∧ own_at sv fd' fs' 1 r1 ∧ own_at sv fd' fs' 2 r2 ∧ own_at sv fd' fs' 3 r3 ∧ own_U3 (own_K sv pl) d0 d1 d2 x r0 r1 r2 r3
set_option maxRecDepth 65536 in
set_option maxHeartbeats 40000000 in
theorem rm8o3 (l : Launch) (Z : State) (a0 : Array Value) (hw : ∀ d ∈ tables_1, d.before a0 Z = true) (ws : List Jvm.Cond) (sv pl : Int32 → Int32) (ob sa da pa : Addr) (fd fs fp : Nat → Value) (d0 d1 d2 x : Int32) (h0 : Heap) (n0 : Nat) (Z0 : n0 ≤ h0.size) (Sb : own_S Z h0 ob sa da pa (3 : Int32) fd fs fp) (Nn : own_N n0 ob sa da pa) (hP : own_P pl fp) (t0 : own_at sv fd fs 0 d0) (t1 : own_at sv fd fs 1 d1) (t2 : own_at sv fd fs 2 d2) (k_x : own_ok x) :
    MetFree l (⟨"com/example/etsinta/etsinta/search/Best", "offer", "(ID)V"⟩ : MethodName) (head1 (Jvm.Cond.code (⟨"com/example/etsinta/etsinta/search/Best", "offer", "(ID)V"⟩ : MethodName) prog_26_method_3_code 4 none :: ws) ({ frames := 2, cells := 0, slots := 0, locals := 36 } : Room)) (fun aa_ U => aa_ = #[(.ref ob), (.int x), (.double (FP.i2d (sv x)))] ∧ Z.Warmed39 U.vm ∧ U.heap = h0) (fun _ _ _ _ _ => True) (fun _ U o U' => ∃ v L, o = .returned v ∧ Q8o3 Z sv pl ob sa da pa fd fs fp d0 d1 d2 x h0 n0 v U'.heap L ∧ FrameEnd U o U' L ({ frames := 2, cells := 0, slots := 0, locals := 36 } : Room).cells ({ frames := 2, cells := 0, slots := 0, locals := 36 } : Room).slots) := by
  refine own_met (Q := fun v h L => Q8o3 Z sv pl ob sa da pa fd fs fp d0 d1 d2 x h0 n0 v h L) (plainFor_of_name pn_0) ?_
  intro p e s m below meth c s₁ hx hby hml hret hlk hown hnm hZ X0 e0
  have N0 := Fr.nil n0
  rw [ef_8o3 m ob x (FP.i2d (sv x))]
  show OwnG p e below s _ _ _ (s₁.setTop (mkF m 0 #[.val (.ref ob), .val (.int x), .val (.double (FP.i2d (sv x))), .second] []))
  refine own_by (fun _ K => XS.aloadN X0.here hx rfl (hb hby d8_0) rfl rfl K) ?_
  show OwnG p e below s _ _ _ (s₁.setTop (mkF m 1 _ [(.ref ob)]))
  obtain ⟨T1, X1, e1, st1⟩ := getF X0 hx hZ hown (host := "") (Or.inl (own_w hw 25 rfl)) Via.refl e0 Sb.2.2.2.2.2.1 (g := (mkF m 1 #[.val (.ref ob), .val (.int x), .val (.double (FP.i2d (sv x))), .second] [(.ref ob)])) rfl rfl (hb hby d8_1)
  refine own_by (fun _ K => st1 _ K) ?_
  show OwnG p e below s _ _ _ (T1.setTop (mkF m 4 _ [(.int 3)]))
  refine own_by (fun _ K => XS.aloadN X1.here hx rfl (hb hby d8_4) rfl rfl K) ?_
  show OwnG p e below s _ _ _ (T1.setTop (mkF m 5 _ [(.ref ob), (.int 3)]))
  obtain ⟨T2, X2, e2, st2⟩ := getF X1 hx hZ hown (host := "") (Or.inl (own_w hw 16 rfl)) Via.refl e1 Sb.2.2.2.1 (g := (mkF m 5 #[.val (.ref ob), .val (.int x), .val (.double (FP.i2d (sv x))), .second] [(.ref ob), (.int 3)])) rfl rfl (hb hby d8_5)
  refine own_by (fun _ K => st2 _ K) ?_
  show OwnG p e below s _ _ _ (T2.setTop (mkF m 8 _ [(.int 4), (.int 3)]))
  refine own_by (fun _ K => XS.icmpNo X2.here hx rfl (hb hby d8_8) rfl (tlt (by decide)).2.1 K) ?_
  show OwnG p e below s _ _ _ (T2.setTop (mkF m 11 _ []))
  refine own_by (fun _ K => XS.aloadN X2.here hx rfl (hb hby d8_11) rfl rfl K) ?_
  show OwnG p e below s _ _ _ (T2.setTop (mkF m 12 _ [(.ref ob)]))
  obtain ⟨T3, X3, e3, st3⟩ := getF X2 hx hZ hown (host := "") (Or.inl (own_w hw 25 rfl)) Via.refl e2 Sb.2.2.2.2.2.1 (g := (mkF m 12 #[.val (.ref ob), .val (.int x), .val (.double (FP.i2d (sv x))), .second] [(.ref ob)])) rfl rfl (hb hby d8_12)
  refine own_by (fun _ K => st3 _ K) ?_
  show OwnG p e below s _ _ _ (T3.setTop (mkF m 15 _ [(.int 3)]))
  refine own_by (fun _ K => XS.aloadN X3.here hx rfl (hb hby d8_15) rfl rfl K) ?_
  show OwnG p e below s _ _ _ (T3.setTop (mkF m 16 _ [(.ref ob), (.int 3)]))
  obtain ⟨T4, X4, e4, st4⟩ := getF X3 hx hZ hown (host := "") (Or.inl (own_w hw 12 rfl)) Via.refl e3 Sb.2.1 (g := (mkF m 16 #[.val (.ref ob), .val (.int x), .val (.double (FP.i2d (sv x))), .second] [(.ref ob), (.int 3)])) rfl rfl (hb hby d8_16)
  refine own_by (fun _ K => st4 _ K) ?_
  show OwnG p e below s _ _ _ (T4.setTop (mkF m 19 _ [(.ref sa), (.int 3)]))
  refine own_by (fun _ K => own_len X4 hx hZ e4 Sb.2.2.2.2.2.2.2.1 (z := (16 : Int32)) rfl (g := (mkF m 19 #[.val (.ref ob), .val (.int x), .val (.double (FP.i2d (sv x))), .second] [(.ref sa), (.int 3)])) rfl rfl (hb hby d8_19) _ K) ?_
  show OwnG p e below s _ _ _ (T4.setTop (mkF m 20 _ [(.int 16), (.int 3)]))
  refine own_by (fun _ K => XS.icmpYes X4.here hx rfl (pc0 := 20) (pc' := 68) rfl (hb hby d8_20) rfl (feq (by decide)).2 (by decide) (by decide) K) ?_
  show OwnG p e below s _ _ _ (T4.setTop (mkF m 68 _ []))
  refine own_by (fun _ K => XS.aloadN X4.here hx rfl (hb hby d8_68) rfl rfl K) ?_
  show OwnG p e below s _ _ _ (T4.setTop (mkF m 69 _ [(.ref ob)]))
  refine own_by (fun _ K => XS.dup X4.here hx rfl (hb hby d8_69) rfl rfl K) ?_
  show OwnG p e below s _ _ _ (T4.setTop (mkF m 70 _ [(.ref ob), (.ref ob)]))
  obtain ⟨T5, X5, e5, st5⟩ := getF X4 hx hZ hown (host := "") (Or.inl (own_w hw 25 rfl)) Via.refl e4 Sb.2.2.2.2.2.1 (g := (mkF m 70 #[.val (.ref ob), .val (.int x), .val (.double (FP.i2d (sv x))), .second] [(.ref ob), (.ref ob)])) rfl rfl (hb hby d8_70)
  refine own_by (fun _ K => st5 _ K) ?_
  show OwnG p e below s _ _ _ (T5.setTop (mkF m 73 _ [(.int 3), (.ref ob)]))
  refine own_by (fun _ K => XS.iconst X5.here hx rfl (hb hby d8_73) K) ?_
  show OwnG p e below s _ _ _ (T5.setTop (mkF m 74 _ [(.int 1), (.int 3), (.ref ob)]))
  refine own_by (fun _ K => XS.iadd X5.here hx rfl (hb hby d8_74) rfl K) ?_
  show OwnG p e below s _ _ _ (T5.setTop (mkF m 75 _ [(.int 4), (.ref ob)]))
  obtain ⟨T6, h6, X6, e6, W6, st6⟩ := putF X5 hx hZ hown (host := "") (Or.inl (own_w hw 25 rfl)) Via.refl e5 Sb.2.2.2.2.2.1 Sb.1 (Or.inl (own_w hw 26 rfl)) (own_w hw 4 rfl) (ty := .int) (by decide) rfl rfl (g := (mkF m 75 #[.val (.ref ob), .val (.int x), .val (.double (FP.i2d (sv x))), .second] [(.int 4), (.ref ob)])) rfl rfl (hb hby d8_75)
  refine own_by (fun _ K => st6 _ K) ?_
  have f7 := Exa.wr W6 Sb.1
  have f8 := Fld.other W6 Sb.2.1 (Or.inr (slot_ne (Or.inl (own_w hw 13 rfl)) (Or.inl (own_w hw 26 rfl)) (by decide) (t := (.array .double)) (t' := .int) (by decide) (by decide)))
  have f9 := Fld.other W6 Sb.2.2.1 (Or.inr (slot_ne (Or.inl (own_w hw 15 rfl)) (Or.inl (own_w hw 26 rfl)) (by decide) (t := (.array .int)) (t' := .int) (by decide) (by decide)))
  have f10 := Fld.other W6 Sb.2.2.2.1 (Or.inr (slot_ne (Or.inr (own_w hw 17 rfl)) (Or.inl (own_w hw 26 rfl)) (by decide) (t := .int) (t' := .int) (by decide) (by decide)))
  have f11 := Fld.other W6 Sb.2.2.2.2.1 (Or.inr (slot_ne (Or.inr (own_w hw 19 rfl)) (Or.inl (own_w hw 26 rfl)) (by decide) (t := (.array .int)) (t' := .int) (by decide) (by decide)))
  have f13 := OwnA.other W6 Sb.2.2.2.2.2.2.1 (Ne.symm Nn.2.2.2.2.1)
  have f14 := OwnA.other W6 Sb.2.2.2.2.2.2.2.1 (Ne.symm Nn.2.2.2.1)
  have f15 := OwnA.other W6 Sb.2.2.2.2.2.2.2.2 (Ne.symm Nn.2.2.2.2.2.1)
  have f16 := Keep.wr (Keep.refl h0 [ob, sa, da]) W6 (Or.inl (by simp))
  have f17 := Fld.same W6 Sb.2.2.2.2.2.1
  have N6 := Fr.snoc X6 N0 Nn.1
  have sz6 : n0 ≤ h6.size := by rw [W6.size]; exact Z0
  show OwnG p e below s _ _ _ (T6.setTop (mkF m 78 _ []))
  refine own_by (fun _ K => XS.aloadN X6.here hx rfl (hb hby d8_78) rfl rfl K) ?_
  show OwnG p e below s _ _ _ (T6.setTop (mkF m 79 _ [(.ref ob)]))
  refine own_by (fun _ K => XS.aloadN X6.here hx rfl (hb hby d8_79) rfl rfl K) ?_
  show OwnG p e below s _ _ _ (T6.setTop (mkF m 80 _ [(.ref ob), (.ref ob)]))
  obtain ⟨T18, X18, e18, st18⟩ := getF X6 hx hZ hown (host := "") (Or.inl (own_w hw 25 rfl)) Via.refl e6 f17 (g := (mkF m 80 #[.val (.ref ob), .val (.int x), .val (.double (FP.i2d (sv x))), .second] [(.ref ob), (.ref ob)])) rfl rfl (hb hby d8_80)
  refine own_by (fun _ K => st18 _ K) ?_
  show OwnG p e below s _ _ _ (T18.setTop (mkF m 83 _ [(.int 4), (.ref ob)]))
  refine own_by (fun _ K => XS.iconst X18.here hx rfl (hb hby d8_83) K) ?_
  show OwnG p e below s _ _ _ (T18.setTop (mkF m 84 _ [(.int 1), (.int 4), (.ref ob)]))
  refine own_by (fun _ K => XS.isub X18.here hx rfl (hb hby d8_84) rfl K) ?_
  show OwnG p e below s _ _ _ (T18.setTop (mkF m 85 _ [(.int 3), (.ref ob)]))
  refine own_by (fun _ K => XS.iloadN X18.here hx rfl (hb hby d8_85) rfl K) ?_
  show OwnG p e below s _ _ _ (T18.setTop (mkF m 86 _ [(.int x), (.int 3), (.ref ob)]))
  refine own_by (fun _ K => XS.dloadN X18.here hx rfl (hb hby d8_86) rfl K) ?_
  show OwnG p e below s _ _ _ (T18.setTop (mkF m 87 _ [(.double (FP.i2d (sv x))), (.int x), (.int 3), (.ref ob)]))
  obtain ⟨cq19, q19, q19'⟩ := Exa.cell f7
  obtain ⟨_, _, ⟨T19, L19, k19, n19⟩, -, X19, ⟨Lc19, hQ19, l19, y19, z19⟩, st19⟩ := X18.privateBack hx (y := (⟨"com/example/etsinta/etsinta/search/Best", "siftUp", "(IID)V"⟩ : MethodName)) hown (mvT hZ (own_w hw 47 rfl)) (mvT hZ (own_w hw 48 rfl)) (own_selp hZ (y := (⟨"com/example/etsinta/etsinta/search/Best", "siftUp", "(IID)V"⟩ : MethodName)) (own_w hw 4 rfl) (own_w hw 49 rfl) (own_w hw 48 rfl) (by decide)) (Cond.privateMethod_at (mvP hZ (own_w hw 49 rfl) (args := #[]))) (mvT hZ (own_w hw 50 rfl)) (by decide) (backOf (W := 0) (rm9u3 l Z a0 hw [] sv pl ob sa da pa (4 : Int32) fd fs fp d0 d1 d2 x h6 n0 sz6 ⟨f7, f8, f9, f10, f11, f17, f13, f14, f15⟩ Nn hP ⟨t0.1, t0.2.1, t0.2.2⟩ ⟨t1.1, t1.2.1, t1.2.2⟩ ⟨t2.1, t2.2.1, t2.2.2⟩ k_x) hZ (own_w hw 50 rfl) (own_w hw 5 rfl) (by decide) (by decide)) (g := (mkF m 87 #[.val (.ref ob), .val (.int x), .val (.double (FP.i2d (sv x))), .second] [(.double (FP.i2d (sv x))), (.int x), (.int 3), (.ref ob)])) rfl (by rw [hml]; rfl) (Steps.refl _) (a := ob) (by rw [e18]; exact q19) q19' (argsL := [(.int 3), (.int x), (.double (FP.i2d (sv x)))]) (rest := []) (lenOf pd_1 rfl) rfl (by show 2 * 0 + _ ≤ _; exact Nat.le_of_eq rfl) (hb hby d8_87) (fun _ _ => ⟨rfl, e18, (by decide : 0 + 0 ≤ _), (by decide : 0 + 0 ≤ _)⟩)
  dsimp only [Pt.U, Pt.locs, Pt.cells, Pt.slots] at X19 l19 y19 z19 st19 hQ19
  subst l19 y19 z19
  refine own_by (fun _ K => st19.trans K) ?_
  obtain ⟨rfl, N19q, K19, fd19, fs19, r19_0, r19_1, r19_2, r19_3, S19, t19_0, t19_1, t19_2, t19_3, hU19⟩ := hQ19
  have N19 := Fr.app N6 N19q
  have sz19 : n0 ≤ T19.heap.size := Nat.le_trans sz6 K19.1
  have f20 := Exa.keep f7 K19
  have f21 := Keep.trans f16 K19 (allS (Or.inl (by simp)) (allS (Or.inl (by simp)) all0))
  show OwnG p e below s _ _ _ (T19.setTop (mkF m 90 _ []))
  refine own_by (fun _ K => XS.goto X19.here hx rfl (pc0 := 90) (pc' := 120) rfl (hb hby d8_90) (by decide) (by decide) K) ?_
  show OwnG p e below s _ _ _ (T19.setTop (mkF m 120 _ []))
  exact own_outV X19 hx hret hlk (hb hby d8_120) (by show _ ∧ _; rw [(rfl : T19.heap = T19.heap)]; exact ⟨rfl, N19, f21, _, _, r19_0, r19_1, r19_2, r19_3, ⟨S19.1, S19.2.1, S19.2.2.1, S19.2.2.2.1, S19.2.2.2.2.1, S19.2.2.2.2.2.1, S19.2.2.2.2.2.2.1, S19.2.2.2.2.2.2.2.1, S19.2.2.2.2.2.2.2.2⟩, ⟨t19_0.1, t19_0.2.1, t19_0.2.2⟩, ⟨t19_1.1, t19_1.2.1, t19_1.2.2⟩, ⟨t19_2.1, t19_2.2.1, t19_2.2.2⟩, ⟨t19_3.1, t19_3.2.1, t19_3.2.2⟩, hU19⟩) (by decide) (by decide)
theorem d15_0 : decode prog_26_method_10_code 0 = .ok (.iconst 0, 1) := by decide +kernel
theorem d15_1 : decode prog_26_method_10_code 1 = .ok (.istore 4, 2) := by decide +kernel
theorem d15_3 : decode prog_26_method_10_code 3 = .ok (.iconst 2, 1) := by decide +kernel
theorem d15_4 : decode prog_26_method_10_code 4 = .ok (.iload 4, 2) := by decide +kernel
theorem d15_6 : decode prog_26_method_10_code 6 = .ok (.imul, 1) := by decide +kernel
theorem d15_7 : decode prog_26_method_10_code 7 = .ok (.iconst 1, 1) := by decide +kernel
theorem d15_8 : decode prog_26_method_10_code 8 = .ok (.iadd, 1) := by decide +kernel
theorem d15_9 : decode prog_26_method_10_code 9 = .ok (.aload_n 0, 1) := by decide +kernel
theorem d15_10 : decode prog_26_method_10_code 10 = .ok (.getfield 74, 3) := by decide +kernel
theorem d15_13 : decode prog_26_method_10_code 13 = .ok (.if_icmp .ge 125, 3) := by decide +kernel
theorem d15_16 : decode prog_26_method_10_code 16 = .ok (.iconst 2, 1) := by decide +kernel
theorem d15_17 : decode prog_26_method_10_code 17 = .ok (.iload 4, 2) := by decide +kernel
theorem d15_19 : decode prog_26_method_10_code 19 = .ok (.imul, 1) := by decide +kernel
theorem d15_20 : decode prog_26_method_10_code 20 = .ok (.iconst 1, 1) := by decide +kernel
theorem d15_21 : decode prog_26_method_10_code 21 = .ok (.iadd, 1) := by decide +kernel
theorem d15_22 : decode prog_26_method_10_code 22 = .ok (.istore 5, 2) := by decide +kernel
theorem d15_24 : decode prog_26_method_10_code 24 = .ok (.iload 5, 2) := by decide +kernel
theorem d15_26 : decode prog_26_method_10_code 26 = .ok (.iconst 1, 1) := by decide +kernel
theorem d15_27 : decode prog_26_method_10_code 27 = .ok (.iadd, 1) := by decide +kernel
theorem d15_28 : decode prog_26_method_10_code 28 = .ok (.aload_n 0, 1) := by decide +kernel
theorem d15_29 : decode prog_26_method_10_code 29 = .ok (.getfield 74, 3) := by decide +kernel
theorem d15_32 : decode prog_26_method_10_code 32 = .ok (.if_icmp .ge 45, 3) := by decide +kernel
theorem d15_35 : decode prog_26_method_10_code 35 = .ok (.aload_n 0, 1) := by decide +kernel
theorem d15_36 : decode prog_26_method_10_code 36 = .ok (.aload_n 0, 1) := by decide +kernel
theorem d15_37 : decode prog_26_method_10_code 37 = .ok (.getfield 13, 3) := by decide +kernel
theorem d15_40 : decode prog_26_method_10_code 40 = .ok (.iload 5, 2) := by decide +kernel
theorem d15_42 : decode prog_26_method_10_code 42 = .ok (.iconst 1, 1) := by decide +kernel
theorem d15_43 : decode prog_26_method_10_code 43 = .ok (.iadd, 1) := by decide +kernel
theorem d15_44 : decode prog_26_method_10_code 44 = .ok (.iaload, 1) := by decide +kernel
theorem d15_45 : decode prog_26_method_10_code 45 = .ok (.aload_n 0, 1) := by decide +kernel
theorem d15_46 : decode prog_26_method_10_code 46 = .ok (.getfield 7, 3) := by decide +kernel
theorem d15_49 : decode prog_26_method_10_code 49 = .ok (.iload 5, 2) := by decide +kernel
theorem d15_51 : decode prog_26_method_10_code 51 = .ok (.iconst 1, 1) := by decide +kernel
theorem d15_52 : decode prog_26_method_10_code 52 = .ok (.iadd, 1) := by decide +kernel
theorem d15_53 : decode prog_26_method_10_code 53 = .ok (.daload, 1) := by decide +kernel
theorem d15_54 : decode prog_26_method_10_code 54 = .ok (.aload_n 0, 1) := by decide +kernel
theorem d15_55 : decode prog_26_method_10_code 55 = .ok (.getfield 13, 3) := by decide +kernel
theorem d15_58 : decode prog_26_method_10_code 58 = .ok (.iload 5, 2) := by decide +kernel
theorem d15_60 : decode prog_26_method_10_code 60 = .ok (.iaload, 1) := by decide +kernel
theorem d15_61 : decode prog_26_method_10_code 61 = .ok (.aload_n 0, 1) := by decide +kernel
theorem d15_62 : decode prog_26_method_10_code 62 = .ok (.getfield 7, 3) := by decide +kernel
theorem d15_65 : decode prog_26_method_10_code 65 = .ok (.iload 5, 2) := by decide +kernel
theorem d15_67 : decode prog_26_method_10_code 67 = .ok (.daload, 1) := by decide +kernel
theorem d15_68 : decode prog_26_method_10_code 68 = .ok (.invokevirtual 98, 3) := by decide +kernel
theorem d15_71 : decode prog_26_method_10_code 71 = .ok (.ifCond .eq 6, 3) := by decide +kernel
theorem d15_74 : decode prog_26_method_10_code 74 = .ok (.iinc 5 1, 3) := by decide +kernel
theorem d15_77 : decode prog_26_method_10_code 77 = .ok (.aload_n 0, 1) := by decide +kernel
theorem d15_78 : decode prog_26_method_10_code 78 = .ok (.aload_n 0, 1) := by decide +kernel
theorem d15_79 : decode prog_26_method_10_code 79 = .ok (.getfield 13, 3) := by decide +kernel
theorem d15_82 : decode prog_26_method_10_code 82 = .ok (.iload 5, 2) := by decide +kernel
theorem d15_84 : decode prog_26_method_10_code 84 = .ok (.iaload, 1) := by decide +kernel
theorem d15_85 : decode prog_26_method_10_code 85 = .ok (.aload_n 0, 1) := by decide +kernel
theorem d15_86 : decode prog_26_method_10_code 86 = .ok (.getfield 7, 3) := by decide +kernel
theorem d15_89 : decode prog_26_method_10_code 89 = .ok (.iload 5, 2) := by decide +kernel
theorem d15_91 : decode prog_26_method_10_code 91 = .ok (.daload, 1) := by decide +kernel
theorem d15_92 : decode prog_26_method_10_code 92 = .ok (.iload_n 1, 1) := by decide +kernel
theorem d15_93 : decode prog_26_method_10_code 93 = .ok (.dload_n 2, 1) := by decide +kernel
theorem d15_94 : decode prog_26_method_10_code 94 = .ok (.invokevirtual 98, 3) := by decide +kernel
theorem d15_97 : decode prog_26_method_10_code 97 = .ok (.ifCond .ne 6, 3) := by decide +kernel
theorem d15_100 : decode prog_26_method_10_code 100 = .ok (.goto 38, 3) := by decide +kernel
theorem d15_103 : decode prog_26_method_10_code 103 = .ok (.aload_n 0, 1) := by decide +kernel
theorem d15_104 : decode prog_26_method_10_code 104 = .ok (.getfield 13, 3) := by decide +kernel
theorem d15_107 : decode prog_26_method_10_code 107 = .ok (.iload 4, 2) := by decide +kernel
theorem d15_109 : decode prog_26_method_10_code 109 = .ok (.aload_n 0, 1) := by decide +kernel
theorem d15_110 : decode prog_26_method_10_code 110 = .ok (.getfield 13, 3) := by decide +kernel
theorem d15_113 : decode prog_26_method_10_code 113 = .ok (.iload 5, 2) := by decide +kernel
theorem d15_115 : decode prog_26_method_10_code 115 = .ok (.iaload, 1) := by decide +kernel
theorem d15_116 : decode prog_26_method_10_code 116 = .ok (.iastore, 1) := by decide +kernel
theorem d15_117 : decode prog_26_method_10_code 117 = .ok (.aload_n 0, 1) := by decide +kernel
theorem d15_118 : decode prog_26_method_10_code 118 = .ok (.getfield 7, 3) := by decide +kernel
theorem d15_121 : decode prog_26_method_10_code 121 = .ok (.iload 4, 2) := by decide +kernel
theorem d15_123 : decode prog_26_method_10_code 123 = .ok (.aload_n 0, 1) := by decide +kernel
theorem d15_124 : decode prog_26_method_10_code 124 = .ok (.getfield 7, 3) := by decide +kernel
theorem d15_127 : decode prog_26_method_10_code 127 = .ok (.iload 5, 2) := by decide +kernel
theorem d15_129 : decode prog_26_method_10_code 129 = .ok (.daload, 1) := by decide +kernel
theorem d15_130 : decode prog_26_method_10_code 130 = .ok (.dastore, 1) := by decide +kernel
theorem d15_131 : decode prog_26_method_10_code 131 = .ok (.iload 5, 2) := by decide +kernel
theorem d15_133 : decode prog_26_method_10_code 133 = .ok (.istore 4, 2) := by decide +kernel
theorem d15_135 : decode prog_26_method_10_code 135 = .ok (.goto (-132), 3) := by decide +kernel
theorem d15_138 : decode prog_26_method_10_code 138 = .ok (.aload_n 0, 1) := by decide +kernel
theorem d15_139 : decode prog_26_method_10_code 139 = .ok (.getfield 13, 3) := by decide +kernel
theorem d15_142 : decode prog_26_method_10_code 142 = .ok (.iload 4, 2) := by decide +kernel
theorem d15_144 : decode prog_26_method_10_code 144 = .ok (.iload_n 1, 1) := by decide +kernel
theorem d15_145 : decode prog_26_method_10_code 145 = .ok (.iastore, 1) := by decide +kernel
theorem d15_146 : decode prog_26_method_10_code 146 = .ok (.aload_n 0, 1) := by decide +kernel
theorem d15_147 : decode prog_26_method_10_code 147 = .ok (.getfield 7, 3) := by decide +kernel
theorem d15_150 : decode prog_26_method_10_code 150 = .ok (.iload 4, 2) := by decide +kernel
theorem d15_152 : decode prog_26_method_10_code 152 = .ok (.dload_n 2, 1) := by decide +kernel
theorem d15_153 : decode prog_26_method_10_code 153 = .ok (.dastore, 1) := by decide +kernel
theorem d15_154 : decode prog_26_method_10_code 154 = .ok (.return_, 1) := by decide +kernel
theorem ef_15d1 (m : MethodId) (x0 : Addr) (x1 : Int32) (x2 : UInt64) : entryFrame m #[(.ref x0), (.int x1), (.double x2)] 6 = mkF m 0 #[.val (.ref x0), .val (.int x1), .val (.double x2), .second, .unset, .unset] [] := by first | (simp [entryFrame, mkF, argsToLocals, Value.category]; done) | rfl
def Q15d1 (Z : State) (sv pl : Int32 → Int32) (ob sa da pa : Addr) (fd fs fp : Nat → Value) (x : Int32) (h0 : Heap) (n0 : Nat) (v : Option Value) (h : Heap) (L : List Loc) : Prop := v = none ∧ Fr n0 L ∧ Keep h0 h [sa, da] ∧ ∃ fd' fs', ∃ r0 : Int32, own_S Z h ob sa da pa (1 : Int32) fd' fs' fp ∧ own_at sv fd' fs' 0 r0 ∧ r0 = x ∧ (∀ i, 1 ≤ i → fd' i = fd i ∧ fs' i = fs i)
set_option maxRecDepth 65536 in
set_option maxHeartbeats 40000000 in
theorem rm15d1 (l : Launch) (Z : State) (a0 : Array Value) (hw : ∀ d ∈ tables_1, d.before a0 Z = true) (ws : List Jvm.Cond) (sv pl : Int32 → Int32) (ob sa da pa : Addr) (fd fs fp : Nat → Value) (x : Int32) (h0 : Heap) (n0 : Nat) (Z0 : n0 ≤ h0.size) (Sb : own_S Z h0 ob sa da pa (1 : Int32) fd fs fp) (Nn : own_N n0 ob sa da pa) (hP : own_P pl fp) (k_x : own_ok x) :
    MetFree l (⟨"com/example/etsinta/etsinta/search/Best", "siftDown", "(ID)V"⟩ : MethodName) (head1 (Jvm.Cond.code (⟨"com/example/etsinta/etsinta/search/Best", "siftDown", "(ID)V"⟩ : MethodName) prog_26_method_10_code 6 none :: ws) ({ frames := 1, cells := 0, slots := 0, locals := 18 } : Room)) (fun aa_ U => aa_ = #[(.ref ob), (.int x), (.double (FP.i2d (sv x)))] ∧ Z.Warmed39 U.vm ∧ U.heap = h0) (fun _ _ _ _ _ => True) (fun _ U o U' => ∃ v L, o = .returned v ∧ Q15d1 Z sv pl ob sa da pa fd fs fp x h0 n0 v U'.heap L ∧ FrameEnd U o U' L ({ frames := 1, cells := 0, slots := 0, locals := 18 } : Room).cells ({ frames := 1, cells := 0, slots := 0, locals := 18 } : Room).slots) := by
  refine own_met (Q := fun v h L => Q15d1 Z sv pl ob sa da pa fd fs fp x h0 n0 v h L) (plainFor_of_name pn_0) ?_
  intro p e s m below meth c s₁ hx hby hml hret hlk hown hnm hZ X0 e0
  have N0 := Fr.nil n0
  rw [ef_15d1 m ob x (FP.i2d (sv x))]
  show OwnG p e below s _ _ _ (s₁.setTop (mkF m 0 #[.val (.ref ob), .val (.int x), .val (.double (FP.i2d (sv x))), .second, .unset, .unset] []))
  refine own_by (fun _ K => XS.iconst X0.here hx rfl (hb hby d15_0) K) ?_
  show OwnG p e below s _ _ _ (s₁.setTop (mkF m 1 _ [(.int 0)]))
  refine own_by (fun _ K => XS.istore X0.here hx rfl (hb hby d15_1) rfl (l' := #[.val (.ref ob), .val (.int x), .val (.double (FP.i2d (sv x))), .second, .val (.int 0), .unset]) rfl K) ?_
  show OwnG p e below s _ _ _ (s₁.setTop (mkF m 3 _ []))
  refine own_by (fun _ K => XS.iconst X0.here hx rfl (hb hby d15_3) K) ?_
  show OwnG p e below s _ _ _ (s₁.setTop (mkF m 4 _ [(.int 2)]))
  refine own_by (fun _ K => XS.iload X0.here hx rfl (hb hby d15_4) rfl K) ?_
  show OwnG p e below s _ _ _ (s₁.setTop (mkF m 6 _ [(.int 0), (.int 2)]))
  refine own_by (fun _ K => XS.imul X0.here hx rfl (hb hby d15_6) rfl K) ?_
  show OwnG p e below s _ _ _ (s₁.setTop (mkF m 7 _ [(.int 0)]))
  refine own_by (fun _ K => XS.iconst X0.here hx rfl (hb hby d15_7) K) ?_
  show OwnG p e below s _ _ _ (s₁.setTop (mkF m 8 _ [(.int 1), (.int 0)]))
  refine own_by (fun _ K => XS.iadd X0.here hx rfl (hb hby d15_8) rfl K) ?_
  show OwnG p e below s _ _ _ (s₁.setTop (mkF m 9 _ [(.int 1)]))
  refine own_by (fun _ K => XS.aloadN X0.here hx rfl (hb hby d15_9) rfl rfl K) ?_
  show OwnG p e below s _ _ _ (s₁.setTop (mkF m 10 _ [(.ref ob), (.int 1)]))
  obtain ⟨T1, X1, e1, st1⟩ := getF X0 hx hZ hown (host := "") (Or.inl (own_w hw 25 rfl)) Via.refl e0 Sb.2.2.2.2.2.1 (g := (mkF m 10 #[.val (.ref ob), .val (.int x), .val (.double (FP.i2d (sv x))), .second, .val (.int 0), .unset] [(.ref ob), (.int 1)])) rfl rfl (hb hby d15_10)
  refine own_by (fun _ K => st1 _ K) ?_
  show OwnG p e below s _ _ _ (T1.setTop (mkF m 13 _ [(.int 1), (.int 1)]))
  refine own_by (fun _ K => XS.icmpYes X1.here hx rfl (pc0 := 13) (pc' := 138) rfl (hb hby d15_13) rfl (flt (by decide)).2.1 (by decide) (by decide) K) ?_
  show OwnG p e below s _ _ _ (T1.setTop (mkF m 138 _ []))
  refine own_by (fun _ K => XS.aloadN X1.here hx rfl (hb hby d15_138) rfl rfl K) ?_
  show OwnG p e below s _ _ _ (T1.setTop (mkF m 139 _ [(.ref ob)]))
  obtain ⟨T2, X2, e2, st2⟩ := getF X1 hx hZ hown (host := "") (Or.inl (own_w hw 14 rfl)) Via.refl e1 Sb.2.2.1 (g := (mkF m 139 #[.val (.ref ob), .val (.int x), .val (.double (FP.i2d (sv x))), .second, .val (.int 0), .unset] [(.ref ob)])) rfl rfl (hb hby d15_139)
  refine own_by (fun _ K => st2 _ K) ?_
  show OwnG p e below s _ _ _ (T2.setTop (mkF m 142 _ [(.ref da)]))
  refine own_by (fun _ K => XS.iload X2.here hx rfl (hb hby d15_142) rfl K) ?_
  show OwnG p e below s _ _ _ (T2.setTop (mkF m 144 _ [(.int 0), (.ref da)]))
  refine own_by (fun _ K => XS.iloadN X2.here hx rfl (hb hby d15_144) rfl K) ?_
  show OwnG p e below s _ _ _ (T2.setTop (mkF m 145 _ [(.int x), (.int 0), (.ref da)]))
  obtain ⟨T3, h3, X3, e3, W3, A3, st3⟩ := own_stI X2 hx hZ e2 Sb.2.2.2.2.2.2.1 (j := (0 : Int32)) (i := 0) ⟨by decide, rfl, by decide⟩ (g := (mkF m 145 #[.val (.ref ob), .val (.int x), .val (.double (FP.i2d (sv x))), .second, .val (.int 0), .unset] [(.int x), (.int 0), (.ref da)])) rfl rfl (hb hby d15_145)
  refine own_by (fun _ K => st3 _ K) ?_
  have f4 := Exa.wr W3 Sb.1
  have f5 := Fld.other W3 Sb.2.1 (Or.inl Nn.2.2.2.2.1)
  have f6 := Fld.other W3 Sb.2.2.1 (Or.inl Nn.2.2.2.2.1)
  have f7 := Fld.other W3 Sb.2.2.2.1 (Or.inl Nn.2.2.2.2.1)
  have f8 := Fld.other W3 Sb.2.2.2.2.1 (Or.inl Nn.2.2.2.2.1)
  have f9 := Fld.other W3 Sb.2.2.2.2.2.1 (Or.inl Nn.2.2.2.2.1)
  have f11 := OwnA.other W3 Sb.2.2.2.2.2.2.2.1 Nn.2.2.2.2.2.2.1
  have f12 := OwnA.other W3 Sb.2.2.2.2.2.2.2.2 (Ne.symm Nn.2.2.2.2.2.2.2.2)
  have f13 := Keep.wr (Keep.refl h0 [sa, da]) W3 (Or.inl (by simp))
  have N3 := Fr.snoc X3 N0 Nn.2.2.1
  have sz3 : n0 ≤ h3.size := by rw [W3.size]; exact Z0
  show OwnG p e below s _ _ _ (T3.setTop (mkF m 146 _ []))
  refine own_by (fun _ K => XS.aloadN X3.here hx rfl (hb hby d15_146) rfl rfl K) ?_
  show OwnG p e below s _ _ _ (T3.setTop (mkF m 147 _ [(.ref ob)]))
  obtain ⟨T14, X14, e14, st14⟩ := getF X3 hx hZ hown (host := "") (Or.inl (own_w hw 12 rfl)) Via.refl e3 f5 (g := (mkF m 147 #[.val (.ref ob), .val (.int x), .val (.double (FP.i2d (sv x))), .second, .val (.int 0), .unset] [(.ref ob)])) rfl rfl (hb hby d15_147)
  refine own_by (fun _ K => st14 _ K) ?_
  show OwnG p e below s _ _ _ (T14.setTop (mkF m 150 _ [(.ref sa)]))
  refine own_by (fun _ K => XS.iload X14.here hx rfl (hb hby d15_150) rfl K) ?_
  show OwnG p e below s _ _ _ (T14.setTop (mkF m 152 _ [(.int 0), (.ref sa)]))
  refine own_by (fun _ K => XS.dloadN X14.here hx rfl (hb hby d15_152) rfl K) ?_
  show OwnG p e below s _ _ _ (T14.setTop (mkF m 153 _ [(.double (FP.i2d (sv x))), (.int 0), (.ref sa)]))
  obtain ⟨T15, h15, X15, e15, W15, A15, st15⟩ := own_stD X14 hx hZ e14 f11 (j := (0 : Int32)) (i := 0) ⟨by decide, rfl, by decide⟩ (g := (mkF m 153 #[.val (.ref ob), .val (.int x), .val (.double (FP.i2d (sv x))), .second, .val (.int 0), .unset] [(.double (FP.i2d (sv x))), (.int 0), (.ref sa)])) rfl rfl (hb hby d15_153)
  refine own_by (fun _ K => st15 _ K) ?_
  have f16 := Exa.wr W15 f4
  have f17 := Fld.other W15 f5 (Or.inl Nn.2.2.2.1)
  have f18 := Fld.other W15 f6 (Or.inl Nn.2.2.2.1)
  have f19 := Fld.other W15 f7 (Or.inl Nn.2.2.2.1)
  have f20 := Fld.other W15 f8 (Or.inl Nn.2.2.2.1)
  have f21 := Fld.other W15 f9 (Or.inl Nn.2.2.2.1)
  have f22 := OwnA.other W15 A3 (Ne.symm Nn.2.2.2.2.2.2.1)
  have f24 := OwnA.other W15 f12 (Ne.symm Nn.2.2.2.2.2.2.2.1)
  have f25 := Keep.wr f13 W15 (Or.inl (by simp))
  have N15 := Fr.snoc X15 N3 Nn.2.1
  have sz15 : n0 ≤ h15.size := by rw [W15.size]; exact sz3
  show OwnG p e below s _ _ _ (T15.setTop (mkF m 154 _ []))
  exact own_outV X15 hx hret hlk (hb hby d15_154) (by show _ ∧ _; rw [e15]; exact ⟨rfl, N15, f25, _, _, x, ⟨f16, f17, f18, f19, f20, f21, f22, A15, f24⟩, ⟨rfl, rfl, k_x⟩, rfl, fun i hi => ⟨by repeat rw [own_sn (by omega)], by repeat rw [own_sn (by omega)]⟩⟩) (by decide) (by decide)
theorem ef_15d2 (m : MethodId) (x0 : Addr) (x1 : Int32) (x2 : UInt64) : entryFrame m #[(.ref x0), (.int x1), (.double x2)] 6 = mkF m 0 #[.val (.ref x0), .val (.int x1), .val (.double x2), .second, .unset, .unset] [] := by first | (simp [entryFrame, mkF, argsToLocals, Value.category]; done) | rfl
def Q15d2 (Z : State) (sv pl : Int32 → Int32) (ob sa da pa : Addr) (fd fs fp : Nat → Value) (d1 x : Int32) (h0 : Heap) (n0 : Nat) (v : Option Value) (h : Heap) (L : List Loc) : Prop := v = none ∧ Fr n0 L ∧ Keep h0 h [sa, da] ∧ ∃ fd' fs', ∃ r0 r1 : Int32, own_S Z h ob sa da pa (2 : Int32) fd' fs' fp ∧ own_at sv fd' fs' 0 r0 ∧ own_at sv fd' fs' 1 r1 ∧ own_D2 (own_K sv pl) d1 x r0 r1 ∧ (∀ i, 2 ≤ i → fd' i = fd i ∧ fs' i = fs i)
set_option maxRecDepth 65536 in
set_option maxHeartbeats 40000000 in
theorem rm15d2 (l : Launch) (Z : State) (a0 : Array Value) (hw : ∀ d ∈ tables_1, d.before a0 Z = true) (ws : List Jvm.Cond) (sv pl : Int32 → Int32) (ob sa da pa : Addr) (fd fs fp : Nat → Value) (d1 x : Int32) (h0 : Heap) (n0 : Nat) (Z0 : n0 ≤ h0.size) (Sb : own_S Z h0 ob sa da pa (2 : Int32) fd fs fp) (Nn : own_N n0 ob sa da pa) (hP : own_P pl fp) (t1 : own_at sv fd fs 1 d1) (k_x : own_ok x) :
    MetFree l (⟨"com/example/etsinta/etsinta/search/Best", "siftDown", "(ID)V"⟩ : MethodName) (head1 (Jvm.Cond.code (⟨"com/example/etsinta/etsinta/search/Best", "siftDown", "(ID)V"⟩ : MethodName) prog_26_method_10_code 6 none :: ws) ({ frames := 1, cells := 0, slots := 0, locals := 18 } : Room)) (fun aa_ U => aa_ = #[(.ref ob), (.int x), (.double (FP.i2d (sv x)))] ∧ Z.Warmed39 U.vm ∧ U.heap = h0) (fun _ _ _ _ _ => True) (fun _ U o U' => ∃ v L, o = .returned v ∧ Q15d2 Z sv pl ob sa da pa fd fs fp d1 x h0 n0 v U'.heap L ∧ FrameEnd U o U' L ({ frames := 1, cells := 0, slots := 0, locals := 18 } : Room).cells ({ frames := 1, cells := 0, slots := 0, locals := 18 } : Room).slots) := by
  refine own_met (Q := fun v h L => Q15d2 Z sv pl ob sa da pa fd fs fp d1 x h0 n0 v h L) (plainFor_of_name pn_0) ?_
  intro p e s m below meth c s₁ hx hby hml hret hlk hown hnm hZ X0 e0
  have N0 := Fr.nil n0
  rw [ef_15d2 m ob x (FP.i2d (sv x))]
  show OwnG p e below s _ _ _ (s₁.setTop (mkF m 0 #[.val (.ref ob), .val (.int x), .val (.double (FP.i2d (sv x))), .second, .unset, .unset] []))
  refine own_by (fun _ K => XS.iconst X0.here hx rfl (hb hby d15_0) K) ?_
  show OwnG p e below s _ _ _ (s₁.setTop (mkF m 1 _ [(.int 0)]))
  refine own_by (fun _ K => XS.istore X0.here hx rfl (hb hby d15_1) rfl (l' := #[.val (.ref ob), .val (.int x), .val (.double (FP.i2d (sv x))), .second, .val (.int 0), .unset]) rfl K) ?_
  show OwnG p e below s _ _ _ (s₁.setTop (mkF m 3 _ []))
  refine own_by (fun _ K => XS.iconst X0.here hx rfl (hb hby d15_3) K) ?_
  show OwnG p e below s _ _ _ (s₁.setTop (mkF m 4 _ [(.int 2)]))
  refine own_by (fun _ K => XS.iload X0.here hx rfl (hb hby d15_4) rfl K) ?_
  show OwnG p e below s _ _ _ (s₁.setTop (mkF m 6 _ [(.int 0), (.int 2)]))
  refine own_by (fun _ K => XS.imul X0.here hx rfl (hb hby d15_6) rfl K) ?_
  show OwnG p e below s _ _ _ (s₁.setTop (mkF m 7 _ [(.int 0)]))
  refine own_by (fun _ K => XS.iconst X0.here hx rfl (hb hby d15_7) K) ?_
  show OwnG p e below s _ _ _ (s₁.setTop (mkF m 8 _ [(.int 1), (.int 0)]))
  refine own_by (fun _ K => XS.iadd X0.here hx rfl (hb hby d15_8) rfl K) ?_
  show OwnG p e below s _ _ _ (s₁.setTop (mkF m 9 _ [(.int 1)]))
  refine own_by (fun _ K => XS.aloadN X0.here hx rfl (hb hby d15_9) rfl rfl K) ?_
  show OwnG p e below s _ _ _ (s₁.setTop (mkF m 10 _ [(.ref ob), (.int 1)]))
  obtain ⟨T1, X1, e1, st1⟩ := getF X0 hx hZ hown (host := "") (Or.inl (own_w hw 25 rfl)) Via.refl e0 Sb.2.2.2.2.2.1 (g := (mkF m 10 #[.val (.ref ob), .val (.int x), .val (.double (FP.i2d (sv x))), .second, .val (.int 0), .unset] [(.ref ob), (.int 1)])) rfl rfl (hb hby d15_10)
  refine own_by (fun _ K => st1 _ K) ?_
  show OwnG p e below s _ _ _ (T1.setTop (mkF m 13 _ [(.int 2), (.int 1)]))
  refine own_by (fun _ K => XS.icmpNo X1.here hx rfl (hb hby d15_13) rfl (tlt (by decide)).2.1 K) ?_
  show OwnG p e below s _ _ _ (T1.setTop (mkF m 16 _ []))
  refine own_by (fun _ K => XS.iconst X1.here hx rfl (hb hby d15_16) K) ?_
  show OwnG p e below s _ _ _ (T1.setTop (mkF m 17 _ [(.int 2)]))
  refine own_by (fun _ K => XS.iload X1.here hx rfl (hb hby d15_17) rfl K) ?_
  show OwnG p e below s _ _ _ (T1.setTop (mkF m 19 _ [(.int 0), (.int 2)]))
  refine own_by (fun _ K => XS.imul X1.here hx rfl (hb hby d15_19) rfl K) ?_
  show OwnG p e below s _ _ _ (T1.setTop (mkF m 20 _ [(.int 0)]))
  refine own_by (fun _ K => XS.iconst X1.here hx rfl (hb hby d15_20) K) ?_
  show OwnG p e below s _ _ _ (T1.setTop (mkF m 21 _ [(.int 1), (.int 0)]))
  refine own_by (fun _ K => XS.iadd X1.here hx rfl (hb hby d15_21) rfl K) ?_
  show OwnG p e below s _ _ _ (T1.setTop (mkF m 22 _ [(.int 1)]))
  refine own_by (fun _ K => XS.istore X1.here hx rfl (hb hby d15_22) rfl (l' := #[.val (.ref ob), .val (.int x), .val (.double (FP.i2d (sv x))), .second, .val (.int 0), .val (.int 1)]) rfl K) ?_
  show OwnG p e below s _ _ _ (T1.setTop (mkF m 24 _ []))
  refine own_by (fun _ K => XS.iload X1.here hx rfl (hb hby d15_24) rfl K) ?_
  show OwnG p e below s _ _ _ (T1.setTop (mkF m 26 _ [(.int 1)]))
  refine own_by (fun _ K => XS.iconst X1.here hx rfl (hb hby d15_26) K) ?_
  show OwnG p e below s _ _ _ (T1.setTop (mkF m 27 _ [(.int 1), (.int 1)]))
  refine own_by (fun _ K => XS.iadd X1.here hx rfl (hb hby d15_27) rfl K) ?_
  show OwnG p e below s _ _ _ (T1.setTop (mkF m 28 _ [(.int 2)]))
  refine own_by (fun _ K => XS.aloadN X1.here hx rfl (hb hby d15_28) rfl rfl K) ?_
  show OwnG p e below s _ _ _ (T1.setTop (mkF m 29 _ [(.ref ob), (.int 2)]))
  obtain ⟨T2, X2, e2, st2⟩ := getF X1 hx hZ hown (host := "") (Or.inl (own_w hw 25 rfl)) Via.refl e1 Sb.2.2.2.2.2.1 (g := (mkF m 29 #[.val (.ref ob), .val (.int x), .val (.double (FP.i2d (sv x))), .second, .val (.int 0), .val (.int 1)] [(.ref ob), (.int 2)])) rfl rfl (hb hby d15_29)
  refine own_by (fun _ K => st2 _ K) ?_
  show OwnG p e below s _ _ _ (T2.setTop (mkF m 32 _ [(.int 2), (.int 2)]))
  refine own_by (fun _ K => XS.icmpYes X2.here hx rfl (pc0 := 32) (pc' := 77) rfl (hb hby d15_32) rfl (flt (by decide)).2.1 (by decide) (by decide) K) ?_
  show OwnG p e below s _ _ _ (T2.setTop (mkF m 77 _ []))
  refine own_by (fun _ K => XS.aloadN X2.here hx rfl (hb hby d15_77) rfl rfl K) ?_
  show OwnG p e below s _ _ _ (T2.setTop (mkF m 78 _ [(.ref ob)]))
  refine own_by (fun _ K => XS.aloadN X2.here hx rfl (hb hby d15_78) rfl rfl K) ?_
  show OwnG p e below s _ _ _ (T2.setTop (mkF m 79 _ [(.ref ob), (.ref ob)]))
  obtain ⟨T3, X3, e3, st3⟩ := getF X2 hx hZ hown (host := "") (Or.inl (own_w hw 14 rfl)) Via.refl e2 Sb.2.2.1 (g := (mkF m 79 #[.val (.ref ob), .val (.int x), .val (.double (FP.i2d (sv x))), .second, .val (.int 0), .val (.int 1)] [(.ref ob), (.ref ob)])) rfl rfl (hb hby d15_79)
  refine own_by (fun _ K => st3 _ K) ?_
  show OwnG p e below s _ _ _ (T3.setTop (mkF m 82 _ [(.ref da), (.ref ob)]))
  refine own_by (fun _ K => XS.iload X3.here hx rfl (hb hby d15_82) rfl K) ?_
  show OwnG p e below s _ _ _ (T3.setTop (mkF m 84 _ [(.int 1), (.ref da), (.ref ob)]))
  refine own_by (fun _ K => own_ldI X3 hx hZ e3 Sb.2.2.2.2.2.2.1 (j := (1 : Int32)) (i := 1) ⟨by decide, rfl, by decide⟩ (v := (.int d1)) t1.1 (g := (mkF m 84 #[.val (.ref ob), .val (.int x), .val (.double (FP.i2d (sv x))), .second, .val (.int 0), .val (.int 1)] [(.int 1), (.ref da), (.ref ob)])) rfl rfl (hb hby d15_84) _ K) ?_
  show OwnG p e below s _ _ _ (T3.setTop (mkF m 85 _ [(.int d1), (.ref ob)]))
  refine own_by (fun _ K => XS.aloadN X3.here hx rfl (hb hby d15_85) rfl rfl K) ?_
  show OwnG p e below s _ _ _ (T3.setTop (mkF m 86 _ [(.ref ob), (.int d1), (.ref ob)]))
  obtain ⟨T4, X4, e4, st4⟩ := getF X3 hx hZ hown (host := "") (Or.inl (own_w hw 12 rfl)) Via.refl e3 Sb.2.1 (g := (mkF m 86 #[.val (.ref ob), .val (.int x), .val (.double (FP.i2d (sv x))), .second, .val (.int 0), .val (.int 1)] [(.ref ob), (.int d1), (.ref ob)])) rfl rfl (hb hby d15_86)
  refine own_by (fun _ K => st4 _ K) ?_
  show OwnG p e below s _ _ _ (T4.setTop (mkF m 89 _ [(.ref sa), (.int d1), (.ref ob)]))
  refine own_by (fun _ K => XS.iload X4.here hx rfl (hb hby d15_89) rfl K) ?_
  show OwnG p e below s _ _ _ (T4.setTop (mkF m 91 _ [(.int 1), (.ref sa), (.int d1), (.ref ob)]))
  refine own_by (fun _ K => own_ldD X4 hx hZ e4 Sb.2.2.2.2.2.2.2.1 (j := (1 : Int32)) (i := 1) ⟨by decide, rfl, by decide⟩ (v := (.double (FP.i2d (sv d1)))) t1.2.1 (g := (mkF m 91 #[.val (.ref ob), .val (.int x), .val (.double (FP.i2d (sv x))), .second, .val (.int 0), .val (.int 1)] [(.int 1), (.ref sa), (.int d1), (.ref ob)])) rfl rfl (hb hby d15_91) _ K) ?_
  show OwnG p e below s _ _ _ (T4.setTop (mkF m 92 _ [(.double (FP.i2d (sv d1))), (.int d1), (.ref ob)]))
  refine own_by (fun _ K => XS.iloadN X4.here hx rfl (hb hby d15_92) rfl K) ?_
  show OwnG p e below s _ _ _ (T4.setTop (mkF m 93 _ [(.int x), (.double (FP.i2d (sv d1))), (.int d1), (.ref ob)]))
  refine own_by (fun _ K => XS.dloadN X4.here hx rfl (hb hby d15_93) rfl K) ?_
  show OwnG p e below s _ _ _ (T4.setTop (mkF m 94 _ [(.double (FP.i2d (sv x))), (.int x), (.double (FP.i2d (sv d1))), (.int d1), (.ref ob)]))
  obtain ⟨cq5, q5, q5'⟩ := Exa.cell Sb.1
  obtain ⟨_, _, ⟨T5, L5, k5, n5⟩, -, X5, ⟨Lc5, hQ5, l5, y5, z5⟩, st5⟩ := X4.privateBack hx (y := (⟨"com/example/etsinta/etsinta/search/Best", "worse", "(IDID)Z"⟩ : MethodName)) hown (mvT hZ (own_w hw 69 rfl)) (mvT hZ (own_w hw 70 rfl)) (own_selp hZ (y := (⟨"com/example/etsinta/etsinta/search/Best", "worse", "(IDID)Z"⟩ : MethodName)) (own_w hw 4 rfl) (own_w hw 71 rfl) (own_w hw 70 rfl) (by decide)) (Cond.privateMethod_at (mvP hZ (own_w hw 71 rfl) (args := #[]))) (mvT hZ (own_w hw 72 rfl)) (by decide) (backOf (W := 0) (rm14 l Z a0 hw [] sv pl ob sa da pa (2 : Int32) fd fs fp d1 x h0 n0 Z0 ⟨Sb.1, Sb.2.1, Sb.2.2.1, Sb.2.2.2.1, Sb.2.2.2.2.1, Sb.2.2.2.2.2.1, Sb.2.2.2.2.2.2.1, Sb.2.2.2.2.2.2.2.1, Sb.2.2.2.2.2.2.2.2⟩ hP t1.2.2 k_x) hZ (own_w hw 72 rfl) (own_w hw 5 rfl) (by decide) (by decide)) (g := (mkF m 94 #[.val (.ref ob), .val (.int x), .val (.double (FP.i2d (sv x))), .second, .val (.int 0), .val (.int 1)] [(.double (FP.i2d (sv x))), (.int x), (.double (FP.i2d (sv d1))), (.int d1), (.ref ob)])) rfl (by rw [hml]; rfl) (Steps.refl _) (a := ob) (by rw [e4]; exact q5) q5' (argsL := [(.int d1), (.double (FP.i2d (sv d1))), (.int x), (.double (FP.i2d (sv x)))]) (rest := []) (lenOf pd_0 rfl) rfl (by show 2 * 0 + _ ≤ _; exact Nat.le_of_eq rfl) (hb hby d15_94) (fun _ _ => ⟨rfl, e4, (by decide : 0 + 0 ≤ _), (by decide : 0 + 0 ≤ _)⟩)
  dsimp only [Pt.U, Pt.locs, Pt.cells, Pt.slots] at X5 l5 y5 z5 st5 hQ5
  subst l5 y5 z5
  refine own_by (fun _ K => st5.trans K) ?_
  obtain ⟨rfl, N5q, hh5⟩ := hQ5
  have N5 := Fr.app N0 N5q
  have f6 := Sb.1
  rw [← hh5] at f6
  have f7 := Sb.2.1
  rw [← hh5] at f7
  have f8 := Sb.2.2.1
  rw [← hh5] at f8
  have f9 := Sb.2.2.2.1
  rw [← hh5] at f9
  have f10 := Sb.2.2.2.2.1
  rw [← hh5] at f10
  have f11 := Sb.2.2.2.2.2.1
  rw [← hh5] at f11
  have f12 := Sb.2.2.2.2.2.2.1
  rw [← hh5] at f12
  have f13 := Sb.2.2.2.2.2.2.2.1
  rw [← hh5] at f13
  have f14 := Sb.2.2.2.2.2.2.2.2
  rw [← hh5] at f14
  have f15 : Keep h0 T5.heap [sa, da] := by rw [hh5]; exact (Keep.refl h0 [sa, da])
  have sz5 : n0 ≤ T5.heap.size := by rw [hh5]; exact Z0
  show OwnG p e below s _ _ _ (T5.setTop (mkF m 97 _ [(.int (own_b (own_K sv pl d1 < own_K sv pl x)))]))
  by_cases hK16 : own_K sv pl d1 < own_K sv pl x
  · rw [own_bT hK16]
    show OwnG p e below s _ _ _ (T5.setTop (mkF m 97 #[.val (.ref ob), .val (.int x), .val (.double (FP.i2d (sv x))), .second, .val (.int 0), .val (.int 1)] [(.int 1)]))
    refine own_by (fun _ K => XS.ifYes X5.here hx rfl (pc0 := 97) (pc' := 103) rfl (hb hby d15_97) rfl ((if0 _ _).trans (feq (by decide)).2) (by decide) (by decide) K) ?_
    show OwnG p e below s _ _ _ (T5.setTop (mkF m 103 _ []))
    refine own_by (fun _ K => XS.aloadN X5.here hx rfl (hb hby d15_103) rfl rfl K) ?_
    show OwnG p e below s _ _ _ (T5.setTop (mkF m 104 _ [(.ref ob)]))
    obtain ⟨T17, X17, e17, st17⟩ := getF X5 hx hZ hown (host := "") (Or.inl (own_w hw 14 rfl)) Via.refl (rfl : T5.heap = T5.heap) f8 (g := (mkF m 104 #[.val (.ref ob), .val (.int x), .val (.double (FP.i2d (sv x))), .second, .val (.int 0), .val (.int 1)] [(.ref ob)])) rfl rfl (hb hby d15_104)
    refine own_by (fun _ K => st17 _ K) ?_
    show OwnG p e below s _ _ _ (T17.setTop (mkF m 107 _ [(.ref da)]))
    refine own_by (fun _ K => XS.iload X17.here hx rfl (hb hby d15_107) rfl K) ?_
    show OwnG p e below s _ _ _ (T17.setTop (mkF m 109 _ [(.int 0), (.ref da)]))
    refine own_by (fun _ K => XS.aloadN X17.here hx rfl (hb hby d15_109) rfl rfl K) ?_
    show OwnG p e below s _ _ _ (T17.setTop (mkF m 110 _ [(.ref ob), (.int 0), (.ref da)]))
    obtain ⟨T18, X18, e18, st18⟩ := getF X17 hx hZ hown (host := "") (Or.inl (own_w hw 14 rfl)) Via.refl e17 f8 (g := (mkF m 110 #[.val (.ref ob), .val (.int x), .val (.double (FP.i2d (sv x))), .second, .val (.int 0), .val (.int 1)] [(.ref ob), (.int 0), (.ref da)])) rfl rfl (hb hby d15_110)
    refine own_by (fun _ K => st18 _ K) ?_
    show OwnG p e below s _ _ _ (T18.setTop (mkF m 113 _ [(.ref da), (.int 0), (.ref da)]))
    refine own_by (fun _ K => XS.iload X18.here hx rfl (hb hby d15_113) rfl K) ?_
    show OwnG p e below s _ _ _ (T18.setTop (mkF m 115 _ [(.int 1), (.ref da), (.int 0), (.ref da)]))
    refine own_by (fun _ K => own_ldI X18 hx hZ e18 f12 (j := (1 : Int32)) (i := 1) ⟨by decide, rfl, by decide⟩ (v := (.int d1)) t1.1 (g := (mkF m 115 #[.val (.ref ob), .val (.int x), .val (.double (FP.i2d (sv x))), .second, .val (.int 0), .val (.int 1)] [(.int 1), (.ref da), (.int 0), (.ref da)])) rfl rfl (hb hby d15_115) _ K) ?_
    show OwnG p e below s _ _ _ (T18.setTop (mkF m 116 _ [(.int d1), (.int 0), (.ref da)]))
    obtain ⟨T19, h19, X19, e19, W19, A19, st19⟩ := own_stI X18 hx hZ e18 f12 (j := (0 : Int32)) (i := 0) ⟨by decide, rfl, by decide⟩ (g := (mkF m 116 #[.val (.ref ob), .val (.int x), .val (.double (FP.i2d (sv x))), .second, .val (.int 0), .val (.int 1)] [(.int d1), (.int 0), (.ref da)])) rfl rfl (hb hby d15_116)
    refine own_by (fun _ K => st19 _ K) ?_
    have f20 := Exa.wr W19 f6
    have f21 := Fld.other W19 f7 (Or.inl Nn.2.2.2.2.1)
    have f22 := Fld.other W19 f8 (Or.inl Nn.2.2.2.2.1)
    have f23 := Fld.other W19 f9 (Or.inl Nn.2.2.2.2.1)
    have f24 := Fld.other W19 f10 (Or.inl Nn.2.2.2.2.1)
    have f25 := Fld.other W19 f11 (Or.inl Nn.2.2.2.2.1)
    have f27 := OwnA.other W19 f13 Nn.2.2.2.2.2.2.1
    have f28 := OwnA.other W19 f14 (Ne.symm Nn.2.2.2.2.2.2.2.2)
    have f29 := Keep.wr f15 W19 (Or.inl (by simp))
    have N19 := Fr.snoc X19 N5 Nn.2.2.1
    have sz19 : n0 ≤ h19.size := by rw [W19.size]; exact sz5
    show OwnG p e below s _ _ _ (T19.setTop (mkF m 117 _ []))
    refine own_by (fun _ K => XS.aloadN X19.here hx rfl (hb hby d15_117) rfl rfl K) ?_
    show OwnG p e below s _ _ _ (T19.setTop (mkF m 118 _ [(.ref ob)]))
    obtain ⟨T30, X30, e30, st30⟩ := getF X19 hx hZ hown (host := "") (Or.inl (own_w hw 12 rfl)) Via.refl e19 f21 (g := (mkF m 118 #[.val (.ref ob), .val (.int x), .val (.double (FP.i2d (sv x))), .second, .val (.int 0), .val (.int 1)] [(.ref ob)])) rfl rfl (hb hby d15_118)
    refine own_by (fun _ K => st30 _ K) ?_
    show OwnG p e below s _ _ _ (T30.setTop (mkF m 121 _ [(.ref sa)]))
    refine own_by (fun _ K => XS.iload X30.here hx rfl (hb hby d15_121) rfl K) ?_
    show OwnG p e below s _ _ _ (T30.setTop (mkF m 123 _ [(.int 0), (.ref sa)]))
    refine own_by (fun _ K => XS.aloadN X30.here hx rfl (hb hby d15_123) rfl rfl K) ?_
    show OwnG p e below s _ _ _ (T30.setTop (mkF m 124 _ [(.ref ob), (.int 0), (.ref sa)]))
    obtain ⟨T31, X31, e31, st31⟩ := getF X30 hx hZ hown (host := "") (Or.inl (own_w hw 12 rfl)) Via.refl e30 f21 (g := (mkF m 124 #[.val (.ref ob), .val (.int x), .val (.double (FP.i2d (sv x))), .second, .val (.int 0), .val (.int 1)] [(.ref ob), (.int 0), (.ref sa)])) rfl rfl (hb hby d15_124)
    refine own_by (fun _ K => st31 _ K) ?_
    show OwnG p e below s _ _ _ (T31.setTop (mkF m 127 _ [(.ref sa), (.int 0), (.ref sa)]))
    refine own_by (fun _ K => XS.iload X31.here hx rfl (hb hby d15_127) rfl K) ?_
    show OwnG p e below s _ _ _ (T31.setTop (mkF m 129 _ [(.int 1), (.ref sa), (.int 0), (.ref sa)]))
    refine own_by (fun _ K => own_ldD X31 hx hZ e31 f27 (j := (1 : Int32)) (i := 1) ⟨by decide, rfl, by decide⟩ (v := (.double (FP.i2d (sv d1)))) t1.2.1 (g := (mkF m 129 #[.val (.ref ob), .val (.int x), .val (.double (FP.i2d (sv x))), .second, .val (.int 0), .val (.int 1)] [(.int 1), (.ref sa), (.int 0), (.ref sa)])) rfl rfl (hb hby d15_129) _ K) ?_
    show OwnG p e below s _ _ _ (T31.setTop (mkF m 130 _ [(.double (FP.i2d (sv d1))), (.int 0), (.ref sa)]))
    obtain ⟨T32, h32, X32, e32, W32, A32, st32⟩ := own_stD X31 hx hZ e31 f27 (j := (0 : Int32)) (i := 0) ⟨by decide, rfl, by decide⟩ (g := (mkF m 130 #[.val (.ref ob), .val (.int x), .val (.double (FP.i2d (sv x))), .second, .val (.int 0), .val (.int 1)] [(.double (FP.i2d (sv d1))), (.int 0), (.ref sa)])) rfl rfl (hb hby d15_130)
    refine own_by (fun _ K => st32 _ K) ?_
    have f33 := Exa.wr W32 f20
    have f34 := Fld.other W32 f21 (Or.inl Nn.2.2.2.1)
    have f35 := Fld.other W32 f22 (Or.inl Nn.2.2.2.1)
    have f36 := Fld.other W32 f23 (Or.inl Nn.2.2.2.1)
    have f37 := Fld.other W32 f24 (Or.inl Nn.2.2.2.1)
    have f38 := Fld.other W32 f25 (Or.inl Nn.2.2.2.1)
    have f39 := OwnA.other W32 A19 (Ne.symm Nn.2.2.2.2.2.2.1)
    have f41 := OwnA.other W32 f28 (Ne.symm Nn.2.2.2.2.2.2.2.1)
    have f42 := Keep.wr f29 W32 (Or.inl (by simp))
    have N32 := Fr.snoc X32 N19 Nn.2.1
    have sz32 : n0 ≤ h32.size := by rw [W32.size]; exact sz19
    show OwnG p e below s _ _ _ (T32.setTop (mkF m 131 _ []))
    refine own_by (fun _ K => XS.iload X32.here hx rfl (hb hby d15_131) rfl K) ?_
    show OwnG p e below s _ _ _ (T32.setTop (mkF m 133 _ [(.int 1)]))
    refine own_by (fun _ K => XS.istore X32.here hx rfl (hb hby d15_133) rfl (l' := #[.val (.ref ob), .val (.int x), .val (.double (FP.i2d (sv x))), .second, .val (.int 1), .val (.int 1)]) rfl K) ?_
    show OwnG p e below s _ _ _ (T32.setTop (mkF m 135 _ []))
    refine own_by (fun _ K => XS.goto X32.here hx rfl (pc0 := 135) (pc' := 3) rfl (hb hby d15_135) (by decide) (by decide) K) ?_
    show OwnG p e below s _ _ _ (T32.setTop (mkF m 3 _ []))
    refine own_by (fun _ K => XS.iconst X32.here hx rfl (hb hby d15_3) K) ?_
    show OwnG p e below s _ _ _ (T32.setTop (mkF m 4 _ [(.int 2)]))
    refine own_by (fun _ K => XS.iload X32.here hx rfl (hb hby d15_4) rfl K) ?_
    show OwnG p e below s _ _ _ (T32.setTop (mkF m 6 _ [(.int 1), (.int 2)]))
    refine own_by (fun _ K => XS.imul X32.here hx rfl (hb hby d15_6) rfl K) ?_
    show OwnG p e below s _ _ _ (T32.setTop (mkF m 7 _ [(.int 2)]))
    refine own_by (fun _ K => XS.iconst X32.here hx rfl (hb hby d15_7) K) ?_
    show OwnG p e below s _ _ _ (T32.setTop (mkF m 8 _ [(.int 1), (.int 2)]))
    refine own_by (fun _ K => XS.iadd X32.here hx rfl (hb hby d15_8) rfl K) ?_
    show OwnG p e below s _ _ _ (T32.setTop (mkF m 9 _ [(.int 3)]))
    refine own_by (fun _ K => XS.aloadN X32.here hx rfl (hb hby d15_9) rfl rfl K) ?_
    show OwnG p e below s _ _ _ (T32.setTop (mkF m 10 _ [(.ref ob), (.int 3)]))
    obtain ⟨T43, X43, e43, st43⟩ := getF X32 hx hZ hown (host := "") (Or.inl (own_w hw 25 rfl)) Via.refl e32 f38 (g := (mkF m 10 #[.val (.ref ob), .val (.int x), .val (.double (FP.i2d (sv x))), .second, .val (.int 1), .val (.int 1)] [(.ref ob), (.int 3)])) rfl rfl (hb hby d15_10)
    refine own_by (fun _ K => st43 _ K) ?_
    show OwnG p e below s _ _ _ (T43.setTop (mkF m 13 _ [(.int 2), (.int 3)]))
    refine own_by (fun _ K => XS.icmpYes X43.here hx rfl (pc0 := 13) (pc' := 138) rfl (hb hby d15_13) rfl (flt (by decide)).2.1 (by decide) (by decide) K) ?_
    show OwnG p e below s _ _ _ (T43.setTop (mkF m 138 _ []))
    refine own_by (fun _ K => XS.aloadN X43.here hx rfl (hb hby d15_138) rfl rfl K) ?_
    show OwnG p e below s _ _ _ (T43.setTop (mkF m 139 _ [(.ref ob)]))
    obtain ⟨T44, X44, e44, st44⟩ := getF X43 hx hZ hown (host := "") (Or.inl (own_w hw 14 rfl)) Via.refl e43 f35 (g := (mkF m 139 #[.val (.ref ob), .val (.int x), .val (.double (FP.i2d (sv x))), .second, .val (.int 1), .val (.int 1)] [(.ref ob)])) rfl rfl (hb hby d15_139)
    refine own_by (fun _ K => st44 _ K) ?_
    show OwnG p e below s _ _ _ (T44.setTop (mkF m 142 _ [(.ref da)]))
    refine own_by (fun _ K => XS.iload X44.here hx rfl (hb hby d15_142) rfl K) ?_
    show OwnG p e below s _ _ _ (T44.setTop (mkF m 144 _ [(.int 1), (.ref da)]))
    refine own_by (fun _ K => XS.iloadN X44.here hx rfl (hb hby d15_144) rfl K) ?_
    show OwnG p e below s _ _ _ (T44.setTop (mkF m 145 _ [(.int x), (.int 1), (.ref da)]))
    obtain ⟨T45, h45, X45, e45, W45, A45, st45⟩ := own_stI X44 hx hZ e44 f39 (j := (1 : Int32)) (i := 1) ⟨by decide, rfl, by decide⟩ (g := (mkF m 145 #[.val (.ref ob), .val (.int x), .val (.double (FP.i2d (sv x))), .second, .val (.int 1), .val (.int 1)] [(.int x), (.int 1), (.ref da)])) rfl rfl (hb hby d15_145)
    refine own_by (fun _ K => st45 _ K) ?_
    have f46 := Exa.wr W45 f33
    have f47 := Fld.other W45 f34 (Or.inl Nn.2.2.2.2.1)
    have f48 := Fld.other W45 f35 (Or.inl Nn.2.2.2.2.1)
    have f49 := Fld.other W45 f36 (Or.inl Nn.2.2.2.2.1)
    have f50 := Fld.other W45 f37 (Or.inl Nn.2.2.2.2.1)
    have f51 := Fld.other W45 f38 (Or.inl Nn.2.2.2.2.1)
    have f53 := OwnA.other W45 A32 Nn.2.2.2.2.2.2.1
    have f54 := OwnA.other W45 f41 (Ne.symm Nn.2.2.2.2.2.2.2.2)
    have f55 := Keep.wr f42 W45 (Or.inl (by simp))
    have N45 := Fr.snoc X45 N32 Nn.2.2.1
    have sz45 : n0 ≤ h45.size := by rw [W45.size]; exact sz32
    show OwnG p e below s _ _ _ (T45.setTop (mkF m 146 _ []))
    refine own_by (fun _ K => XS.aloadN X45.here hx rfl (hb hby d15_146) rfl rfl K) ?_
    show OwnG p e below s _ _ _ (T45.setTop (mkF m 147 _ [(.ref ob)]))
    obtain ⟨T56, X56, e56, st56⟩ := getF X45 hx hZ hown (host := "") (Or.inl (own_w hw 12 rfl)) Via.refl e45 f47 (g := (mkF m 147 #[.val (.ref ob), .val (.int x), .val (.double (FP.i2d (sv x))), .second, .val (.int 1), .val (.int 1)] [(.ref ob)])) rfl rfl (hb hby d15_147)
    refine own_by (fun _ K => st56 _ K) ?_
    show OwnG p e below s _ _ _ (T56.setTop (mkF m 150 _ [(.ref sa)]))
    refine own_by (fun _ K => XS.iload X56.here hx rfl (hb hby d15_150) rfl K) ?_
    show OwnG p e below s _ _ _ (T56.setTop (mkF m 152 _ [(.int 1), (.ref sa)]))
    refine own_by (fun _ K => XS.dloadN X56.here hx rfl (hb hby d15_152) rfl K) ?_
    show OwnG p e below s _ _ _ (T56.setTop (mkF m 153 _ [(.double (FP.i2d (sv x))), (.int 1), (.ref sa)]))
    obtain ⟨T57, h57, X57, e57, W57, A57, st57⟩ := own_stD X56 hx hZ e56 f53 (j := (1 : Int32)) (i := 1) ⟨by decide, rfl, by decide⟩ (g := (mkF m 153 #[.val (.ref ob), .val (.int x), .val (.double (FP.i2d (sv x))), .second, .val (.int 1), .val (.int 1)] [(.double (FP.i2d (sv x))), (.int 1), (.ref sa)])) rfl rfl (hb hby d15_153)
    refine own_by (fun _ K => st57 _ K) ?_
    have f58 := Exa.wr W57 f46
    have f59 := Fld.other W57 f47 (Or.inl Nn.2.2.2.1)
    have f60 := Fld.other W57 f48 (Or.inl Nn.2.2.2.1)
    have f61 := Fld.other W57 f49 (Or.inl Nn.2.2.2.1)
    have f62 := Fld.other W57 f50 (Or.inl Nn.2.2.2.1)
    have f63 := Fld.other W57 f51 (Or.inl Nn.2.2.2.1)
    have f64 := OwnA.other W57 A45 (Ne.symm Nn.2.2.2.2.2.2.1)
    have f66 := OwnA.other W57 f54 (Ne.symm Nn.2.2.2.2.2.2.2.1)
    have f67 := Keep.wr f55 W57 (Or.inl (by simp))
    have N57 := Fr.snoc X57 N45 Nn.2.1
    have sz57 : n0 ≤ h57.size := by rw [W57.size]; exact sz45
    show OwnG p e below s _ _ _ (T57.setTop (mkF m 154 _ []))
    exact own_outV X57 hx hret hlk (hb hby d15_154) (by show _ ∧ _; rw [e57]; exact ⟨rfl, N57, f67, _, _, d1, x, ⟨f58, f59, f60, f61, f62, f63, f64, A57, f66⟩, ⟨rfl, rfl, t1.2.2⟩, ⟨rfl, rfl, k_x⟩, (by unfold own_D2; rw [if_pos hK16]; exact ⟨rfl, rfl⟩), fun i hi => ⟨by repeat rw [own_sn (by omega)], by repeat rw [own_sn (by omega)]⟩⟩) (by decide) (by decide)
  · rw [own_bF hK16]
    show OwnG p e below s _ _ _ (T5.setTop (mkF m 97 #[.val (.ref ob), .val (.int x), .val (.double (FP.i2d (sv x))), .second, .val (.int 0), .val (.int 1)] [(.int 0)]))
    refine own_by (fun _ K => XS.ifNo X5.here hx rfl (hb hby d15_97) rfl ((if0 _ _).trans (teq (by decide)).2) K) ?_
    show OwnG p e below s _ _ _ (T5.setTop (mkF m 100 _ []))
    refine own_by (fun _ K => XS.goto X5.here hx rfl (pc0 := 100) (pc' := 138) rfl (hb hby d15_100) (by decide) (by decide) K) ?_
    show OwnG p e below s _ _ _ (T5.setTop (mkF m 138 _ []))
    refine own_by (fun _ K => XS.aloadN X5.here hx rfl (hb hby d15_138) rfl rfl K) ?_
    show OwnG p e below s _ _ _ (T5.setTop (mkF m 139 _ [(.ref ob)]))
    obtain ⟨T68, X68, e68, st68⟩ := getF X5 hx hZ hown (host := "") (Or.inl (own_w hw 14 rfl)) Via.refl (rfl : T5.heap = T5.heap) f8 (g := (mkF m 139 #[.val (.ref ob), .val (.int x), .val (.double (FP.i2d (sv x))), .second, .val (.int 0), .val (.int 1)] [(.ref ob)])) rfl rfl (hb hby d15_139)
    refine own_by (fun _ K => st68 _ K) ?_
    show OwnG p e below s _ _ _ (T68.setTop (mkF m 142 _ [(.ref da)]))
    refine own_by (fun _ K => XS.iload X68.here hx rfl (hb hby d15_142) rfl K) ?_
    show OwnG p e below s _ _ _ (T68.setTop (mkF m 144 _ [(.int 0), (.ref da)]))
    refine own_by (fun _ K => XS.iloadN X68.here hx rfl (hb hby d15_144) rfl K) ?_
    show OwnG p e below s _ _ _ (T68.setTop (mkF m 145 _ [(.int x), (.int 0), (.ref da)]))
    obtain ⟨T69, h69, X69, e69, W69, A69, st69⟩ := own_stI X68 hx hZ e68 f12 (j := (0 : Int32)) (i := 0) ⟨by decide, rfl, by decide⟩ (g := (mkF m 145 #[.val (.ref ob), .val (.int x), .val (.double (FP.i2d (sv x))), .second, .val (.int 0), .val (.int 1)] [(.int x), (.int 0), (.ref da)])) rfl rfl (hb hby d15_145)
    refine own_by (fun _ K => st69 _ K) ?_
    have f70 := Exa.wr W69 f6
    have f71 := Fld.other W69 f7 (Or.inl Nn.2.2.2.2.1)
    have f72 := Fld.other W69 f8 (Or.inl Nn.2.2.2.2.1)
    have f73 := Fld.other W69 f9 (Or.inl Nn.2.2.2.2.1)
    have f74 := Fld.other W69 f10 (Or.inl Nn.2.2.2.2.1)
    have f75 := Fld.other W69 f11 (Or.inl Nn.2.2.2.2.1)
    have f77 := OwnA.other W69 f13 Nn.2.2.2.2.2.2.1
    have f78 := OwnA.other W69 f14 (Ne.symm Nn.2.2.2.2.2.2.2.2)
    have f79 := Keep.wr f15 W69 (Or.inl (by simp))
    have N69 := Fr.snoc X69 N5 Nn.2.2.1
    have sz69 : n0 ≤ h69.size := by rw [W69.size]; exact sz5
    show OwnG p e below s _ _ _ (T69.setTop (mkF m 146 _ []))
    refine own_by (fun _ K => XS.aloadN X69.here hx rfl (hb hby d15_146) rfl rfl K) ?_
    show OwnG p e below s _ _ _ (T69.setTop (mkF m 147 _ [(.ref ob)]))
    obtain ⟨T80, X80, e80, st80⟩ := getF X69 hx hZ hown (host := "") (Or.inl (own_w hw 12 rfl)) Via.refl e69 f71 (g := (mkF m 147 #[.val (.ref ob), .val (.int x), .val (.double (FP.i2d (sv x))), .second, .val (.int 0), .val (.int 1)] [(.ref ob)])) rfl rfl (hb hby d15_147)
    refine own_by (fun _ K => st80 _ K) ?_
    show OwnG p e below s _ _ _ (T80.setTop (mkF m 150 _ [(.ref sa)]))
    refine own_by (fun _ K => XS.iload X80.here hx rfl (hb hby d15_150) rfl K) ?_
    show OwnG p e below s _ _ _ (T80.setTop (mkF m 152 _ [(.int 0), (.ref sa)]))
    refine own_by (fun _ K => XS.dloadN X80.here hx rfl (hb hby d15_152) rfl K) ?_
    show OwnG p e below s _ _ _ (T80.setTop (mkF m 153 _ [(.double (FP.i2d (sv x))), (.int 0), (.ref sa)]))
    obtain ⟨T81, h81, X81, e81, W81, A81, st81⟩ := own_stD X80 hx hZ e80 f77 (j := (0 : Int32)) (i := 0) ⟨by decide, rfl, by decide⟩ (g := (mkF m 153 #[.val (.ref ob), .val (.int x), .val (.double (FP.i2d (sv x))), .second, .val (.int 0), .val (.int 1)] [(.double (FP.i2d (sv x))), (.int 0), (.ref sa)])) rfl rfl (hb hby d15_153)
    refine own_by (fun _ K => st81 _ K) ?_
    have f82 := Exa.wr W81 f70
    have f83 := Fld.other W81 f71 (Or.inl Nn.2.2.2.1)
    have f84 := Fld.other W81 f72 (Or.inl Nn.2.2.2.1)
    have f85 := Fld.other W81 f73 (Or.inl Nn.2.2.2.1)
    have f86 := Fld.other W81 f74 (Or.inl Nn.2.2.2.1)
    have f87 := Fld.other W81 f75 (Or.inl Nn.2.2.2.1)
    have f88 := OwnA.other W81 A69 (Ne.symm Nn.2.2.2.2.2.2.1)
    have f90 := OwnA.other W81 f78 (Ne.symm Nn.2.2.2.2.2.2.2.1)
    have f91 := Keep.wr f79 W81 (Or.inl (by simp))
    have N81 := Fr.snoc X81 N69 Nn.2.1
    have sz81 : n0 ≤ h81.size := by rw [W81.size]; exact sz69
    show OwnG p e below s _ _ _ (T81.setTop (mkF m 154 _ []))
    exact own_outV X81 hx hret hlk (hb hby d15_154) (by show _ ∧ _; rw [e81]; exact ⟨rfl, N81, f91, _, _, x, d1, ⟨f82, f83, f84, f85, f86, f87, f88, A81, f90⟩, ⟨rfl, rfl, k_x⟩, ⟨t1.1, t1.2.1, t1.2.2⟩, (by unfold own_D2; rw [if_neg hK16]; exact ⟨rfl, rfl⟩), fun i hi => ⟨by repeat rw [own_sn (by omega)], by repeat rw [own_sn (by omega)]⟩⟩) (by decide) (by decide)
theorem ef_15d3 (m : MethodId) (x0 : Addr) (x1 : Int32) (x2 : UInt64) : entryFrame m #[(.ref x0), (.int x1), (.double x2)] 6 = mkF m 0 #[.val (.ref x0), .val (.int x1), .val (.double x2), .second, .unset, .unset] [] := by first | (simp [entryFrame, mkF, argsToLocals, Value.category]; done) | rfl
def Q15d3 (Z : State) (sv pl : Int32 → Int32) (ob sa da pa : Addr) (fd fs fp : Nat → Value) (d1 d2 x : Int32) (h0 : Heap) (n0 : Nat) (v : Option Value) (h : Heap) (L : List Loc) : Prop := v = none ∧ Fr n0 L ∧ Keep h0 h [sa, da] ∧ ∃ fd' fs', ∃ r0 r1 r2 : Int32, own_S Z h ob sa da pa (3 : Int32) fd' fs' fp ∧ own_at sv fd' fs' 0 r0 ∧ own_at sv fd' fs' 1 r1 ∧ own_at sv fd' fs' 2 r2 ∧ own_D3 (own_K sv pl) d1 d2 x r0 r1 r2 ∧ (∀ i, 3 ≤ i → fd' i = fd i ∧ fs' i = fs i)
set_option maxRecDepth 65536 in
set_option maxHeartbeats 40000000 in
theorem rm15d3 (l : Launch) (Z : State) (a0 : Array Value) (hw : ∀ d ∈ tables_1, d.before a0 Z = true) (ws : List Jvm.Cond) (sv pl : Int32 → Int32) (ob sa da pa : Addr) (fd fs fp : Nat → Value) (d1 d2 x : Int32) (h0 : Heap) (n0 : Nat) (Z0 : n0 ≤ h0.size) (Sb : own_S Z h0 ob sa da pa (3 : Int32) fd fs fp) (Nn : own_N n0 ob sa da pa) (hP : own_P pl fp) (t1 : own_at sv fd fs 1 d1) (t2 : own_at sv fd fs 2 d2) (k_x : own_ok x) :
    MetFree l (⟨"com/example/etsinta/etsinta/search/Best", "siftDown", "(ID)V"⟩ : MethodName) (head1 (Jvm.Cond.code (⟨"com/example/etsinta/etsinta/search/Best", "siftDown", "(ID)V"⟩ : MethodName) prog_26_method_10_code 6 none :: ws) ({ frames := 1, cells := 0, slots := 0, locals := 18 } : Room)) (fun aa_ U => aa_ = #[(.ref ob), (.int x), (.double (FP.i2d (sv x)))] ∧ Z.Warmed39 U.vm ∧ U.heap = h0) (fun _ _ _ _ _ => True) (fun _ U o U' => ∃ v L, o = .returned v ∧ Q15d3 Z sv pl ob sa da pa fd fs fp d1 d2 x h0 n0 v U'.heap L ∧ FrameEnd U o U' L ({ frames := 1, cells := 0, slots := 0, locals := 18 } : Room).cells ({ frames := 1, cells := 0, slots := 0, locals := 18 } : Room).slots) := by
  refine own_met (Q := fun v h L => Q15d3 Z sv pl ob sa da pa fd fs fp d1 d2 x h0 n0 v h L) (plainFor_of_name pn_0) ?_
  intro p e s m below meth c s₁ hx hby hml hret hlk hown hnm hZ X0 e0
  have N0 := Fr.nil n0
  rw [ef_15d3 m ob x (FP.i2d (sv x))]
  show OwnG p e below s _ _ _ (s₁.setTop (mkF m 0 #[.val (.ref ob), .val (.int x), .val (.double (FP.i2d (sv x))), .second, .unset, .unset] []))
  refine own_by (fun _ K => XS.iconst X0.here hx rfl (hb hby d15_0) K) ?_
  show OwnG p e below s _ _ _ (s₁.setTop (mkF m 1 _ [(.int 0)]))
  refine own_by (fun _ K => XS.istore X0.here hx rfl (hb hby d15_1) rfl (l' := #[.val (.ref ob), .val (.int x), .val (.double (FP.i2d (sv x))), .second, .val (.int 0), .unset]) rfl K) ?_
  show OwnG p e below s _ _ _ (s₁.setTop (mkF m 3 _ []))
  refine own_by (fun _ K => XS.iconst X0.here hx rfl (hb hby d15_3) K) ?_
  show OwnG p e below s _ _ _ (s₁.setTop (mkF m 4 _ [(.int 2)]))
  refine own_by (fun _ K => XS.iload X0.here hx rfl (hb hby d15_4) rfl K) ?_
  show OwnG p e below s _ _ _ (s₁.setTop (mkF m 6 _ [(.int 0), (.int 2)]))
  refine own_by (fun _ K => XS.imul X0.here hx rfl (hb hby d15_6) rfl K) ?_
  show OwnG p e below s _ _ _ (s₁.setTop (mkF m 7 _ [(.int 0)]))
  refine own_by (fun _ K => XS.iconst X0.here hx rfl (hb hby d15_7) K) ?_
  show OwnG p e below s _ _ _ (s₁.setTop (mkF m 8 _ [(.int 1), (.int 0)]))
  refine own_by (fun _ K => XS.iadd X0.here hx rfl (hb hby d15_8) rfl K) ?_
  show OwnG p e below s _ _ _ (s₁.setTop (mkF m 9 _ [(.int 1)]))
  refine own_by (fun _ K => XS.aloadN X0.here hx rfl (hb hby d15_9) rfl rfl K) ?_
  show OwnG p e below s _ _ _ (s₁.setTop (mkF m 10 _ [(.ref ob), (.int 1)]))
  obtain ⟨T1, X1, e1, st1⟩ := getF X0 hx hZ hown (host := "") (Or.inl (own_w hw 25 rfl)) Via.refl e0 Sb.2.2.2.2.2.1 (g := (mkF m 10 #[.val (.ref ob), .val (.int x), .val (.double (FP.i2d (sv x))), .second, .val (.int 0), .unset] [(.ref ob), (.int 1)])) rfl rfl (hb hby d15_10)
  refine own_by (fun _ K => st1 _ K) ?_
  show OwnG p e below s _ _ _ (T1.setTop (mkF m 13 _ [(.int 3), (.int 1)]))
  refine own_by (fun _ K => XS.icmpNo X1.here hx rfl (hb hby d15_13) rfl (tlt (by decide)).2.1 K) ?_
  show OwnG p e below s _ _ _ (T1.setTop (mkF m 16 _ []))
  refine own_by (fun _ K => XS.iconst X1.here hx rfl (hb hby d15_16) K) ?_
  show OwnG p e below s _ _ _ (T1.setTop (mkF m 17 _ [(.int 2)]))
  refine own_by (fun _ K => XS.iload X1.here hx rfl (hb hby d15_17) rfl K) ?_
  show OwnG p e below s _ _ _ (T1.setTop (mkF m 19 _ [(.int 0), (.int 2)]))
  refine own_by (fun _ K => XS.imul X1.here hx rfl (hb hby d15_19) rfl K) ?_
  show OwnG p e below s _ _ _ (T1.setTop (mkF m 20 _ [(.int 0)]))
  refine own_by (fun _ K => XS.iconst X1.here hx rfl (hb hby d15_20) K) ?_
  show OwnG p e below s _ _ _ (T1.setTop (mkF m 21 _ [(.int 1), (.int 0)]))
  refine own_by (fun _ K => XS.iadd X1.here hx rfl (hb hby d15_21) rfl K) ?_
  show OwnG p e below s _ _ _ (T1.setTop (mkF m 22 _ [(.int 1)]))
  refine own_by (fun _ K => XS.istore X1.here hx rfl (hb hby d15_22) rfl (l' := #[.val (.ref ob), .val (.int x), .val (.double (FP.i2d (sv x))), .second, .val (.int 0), .val (.int 1)]) rfl K) ?_
  show OwnG p e below s _ _ _ (T1.setTop (mkF m 24 _ []))
  refine own_by (fun _ K => XS.iload X1.here hx rfl (hb hby d15_24) rfl K) ?_
  show OwnG p e below s _ _ _ (T1.setTop (mkF m 26 _ [(.int 1)]))
  refine own_by (fun _ K => XS.iconst X1.here hx rfl (hb hby d15_26) K) ?_
  show OwnG p e below s _ _ _ (T1.setTop (mkF m 27 _ [(.int 1), (.int 1)]))
  refine own_by (fun _ K => XS.iadd X1.here hx rfl (hb hby d15_27) rfl K) ?_
  show OwnG p e below s _ _ _ (T1.setTop (mkF m 28 _ [(.int 2)]))
  refine own_by (fun _ K => XS.aloadN X1.here hx rfl (hb hby d15_28) rfl rfl K) ?_
  show OwnG p e below s _ _ _ (T1.setTop (mkF m 29 _ [(.ref ob), (.int 2)]))
  obtain ⟨T2, X2, e2, st2⟩ := getF X1 hx hZ hown (host := "") (Or.inl (own_w hw 25 rfl)) Via.refl e1 Sb.2.2.2.2.2.1 (g := (mkF m 29 #[.val (.ref ob), .val (.int x), .val (.double (FP.i2d (sv x))), .second, .val (.int 0), .val (.int 1)] [(.ref ob), (.int 2)])) rfl rfl (hb hby d15_29)
  refine own_by (fun _ K => st2 _ K) ?_
  show OwnG p e below s _ _ _ (T2.setTop (mkF m 32 _ [(.int 3), (.int 2)]))
  refine own_by (fun _ K => XS.icmpNo X2.here hx rfl (hb hby d15_32) rfl (tlt (by decide)).2.1 K) ?_
  show OwnG p e below s _ _ _ (T2.setTop (mkF m 35 _ []))
  refine own_by (fun _ K => XS.aloadN X2.here hx rfl (hb hby d15_35) rfl rfl K) ?_
  show OwnG p e below s _ _ _ (T2.setTop (mkF m 36 _ [(.ref ob)]))
  refine own_by (fun _ K => XS.aloadN X2.here hx rfl (hb hby d15_36) rfl rfl K) ?_
  show OwnG p e below s _ _ _ (T2.setTop (mkF m 37 _ [(.ref ob), (.ref ob)]))
  obtain ⟨T3, X3, e3, st3⟩ := getF X2 hx hZ hown (host := "") (Or.inl (own_w hw 14 rfl)) Via.refl e2 Sb.2.2.1 (g := (mkF m 37 #[.val (.ref ob), .val (.int x), .val (.double (FP.i2d (sv x))), .second, .val (.int 0), .val (.int 1)] [(.ref ob), (.ref ob)])) rfl rfl (hb hby d15_37)
  refine own_by (fun _ K => st3 _ K) ?_
  show OwnG p e below s _ _ _ (T3.setTop (mkF m 40 _ [(.ref da), (.ref ob)]))
  refine own_by (fun _ K => XS.iload X3.here hx rfl (hb hby d15_40) rfl K) ?_
  show OwnG p e below s _ _ _ (T3.setTop (mkF m 42 _ [(.int 1), (.ref da), (.ref ob)]))
  refine own_by (fun _ K => XS.iconst X3.here hx rfl (hb hby d15_42) K) ?_
  show OwnG p e below s _ _ _ (T3.setTop (mkF m 43 _ [(.int 1), (.int 1), (.ref da), (.ref ob)]))
  refine own_by (fun _ K => XS.iadd X3.here hx rfl (hb hby d15_43) rfl K) ?_
  show OwnG p e below s _ _ _ (T3.setTop (mkF m 44 _ [(.int 2), (.ref da), (.ref ob)]))
  refine own_by (fun _ K => own_ldI X3 hx hZ e3 Sb.2.2.2.2.2.2.1 (j := (2 : Int32)) (i := 2) ⟨by decide, rfl, by decide⟩ (v := (.int d2)) t2.1 (g := (mkF m 44 #[.val (.ref ob), .val (.int x), .val (.double (FP.i2d (sv x))), .second, .val (.int 0), .val (.int 1)] [(.int 2), (.ref da), (.ref ob)])) rfl rfl (hb hby d15_44) _ K) ?_
  show OwnG p e below s _ _ _ (T3.setTop (mkF m 45 _ [(.int d2), (.ref ob)]))
  refine own_by (fun _ K => XS.aloadN X3.here hx rfl (hb hby d15_45) rfl rfl K) ?_
  show OwnG p e below s _ _ _ (T3.setTop (mkF m 46 _ [(.ref ob), (.int d2), (.ref ob)]))
  obtain ⟨T4, X4, e4, st4⟩ := getF X3 hx hZ hown (host := "") (Or.inl (own_w hw 12 rfl)) Via.refl e3 Sb.2.1 (g := (mkF m 46 #[.val (.ref ob), .val (.int x), .val (.double (FP.i2d (sv x))), .second, .val (.int 0), .val (.int 1)] [(.ref ob), (.int d2), (.ref ob)])) rfl rfl (hb hby d15_46)
  refine own_by (fun _ K => st4 _ K) ?_
  show OwnG p e below s _ _ _ (T4.setTop (mkF m 49 _ [(.ref sa), (.int d2), (.ref ob)]))
  refine own_by (fun _ K => XS.iload X4.here hx rfl (hb hby d15_49) rfl K) ?_
  show OwnG p e below s _ _ _ (T4.setTop (mkF m 51 _ [(.int 1), (.ref sa), (.int d2), (.ref ob)]))
  refine own_by (fun _ K => XS.iconst X4.here hx rfl (hb hby d15_51) K) ?_
  show OwnG p e below s _ _ _ (T4.setTop (mkF m 52 _ [(.int 1), (.int 1), (.ref sa), (.int d2), (.ref ob)]))
  refine own_by (fun _ K => XS.iadd X4.here hx rfl (hb hby d15_52) rfl K) ?_
  show OwnG p e below s _ _ _ (T4.setTop (mkF m 53 _ [(.int 2), (.ref sa), (.int d2), (.ref ob)]))
  refine own_by (fun _ K => own_ldD X4 hx hZ e4 Sb.2.2.2.2.2.2.2.1 (j := (2 : Int32)) (i := 2) ⟨by decide, rfl, by decide⟩ (v := (.double (FP.i2d (sv d2)))) t2.2.1 (g := (mkF m 53 #[.val (.ref ob), .val (.int x), .val (.double (FP.i2d (sv x))), .second, .val (.int 0), .val (.int 1)] [(.int 2), (.ref sa), (.int d2), (.ref ob)])) rfl rfl (hb hby d15_53) _ K) ?_
  show OwnG p e below s _ _ _ (T4.setTop (mkF m 54 _ [(.double (FP.i2d (sv d2))), (.int d2), (.ref ob)]))
  refine own_by (fun _ K => XS.aloadN X4.here hx rfl (hb hby d15_54) rfl rfl K) ?_
  show OwnG p e below s _ _ _ (T4.setTop (mkF m 55 _ [(.ref ob), (.double (FP.i2d (sv d2))), (.int d2), (.ref ob)]))
  obtain ⟨T5, X5, e5, st5⟩ := getF X4 hx hZ hown (host := "") (Or.inl (own_w hw 14 rfl)) Via.refl e4 Sb.2.2.1 (g := (mkF m 55 #[.val (.ref ob), .val (.int x), .val (.double (FP.i2d (sv x))), .second, .val (.int 0), .val (.int 1)] [(.ref ob), (.double (FP.i2d (sv d2))), (.int d2), (.ref ob)])) rfl rfl (hb hby d15_55)
  refine own_by (fun _ K => st5 _ K) ?_
  show OwnG p e below s _ _ _ (T5.setTop (mkF m 58 _ [(.ref da), (.double (FP.i2d (sv d2))), (.int d2), (.ref ob)]))
  refine own_by (fun _ K => XS.iload X5.here hx rfl (hb hby d15_58) rfl K) ?_
  show OwnG p e below s _ _ _ (T5.setTop (mkF m 60 _ [(.int 1), (.ref da), (.double (FP.i2d (sv d2))), (.int d2), (.ref ob)]))
  refine own_by (fun _ K => own_ldI X5 hx hZ e5 Sb.2.2.2.2.2.2.1 (j := (1 : Int32)) (i := 1) ⟨by decide, rfl, by decide⟩ (v := (.int d1)) t1.1 (g := (mkF m 60 #[.val (.ref ob), .val (.int x), .val (.double (FP.i2d (sv x))), .second, .val (.int 0), .val (.int 1)] [(.int 1), (.ref da), (.double (FP.i2d (sv d2))), (.int d2), (.ref ob)])) rfl rfl (hb hby d15_60) _ K) ?_
  show OwnG p e below s _ _ _ (T5.setTop (mkF m 61 _ [(.int d1), (.double (FP.i2d (sv d2))), (.int d2), (.ref ob)]))
  refine own_by (fun _ K => XS.aloadN X5.here hx rfl (hb hby d15_61) rfl rfl K) ?_
  show OwnG p e below s _ _ _ (T5.setTop (mkF m 62 _ [(.ref ob), (.int d1), (.double (FP.i2d (sv d2))), (.int d2), (.ref ob)]))
  obtain ⟨T6, X6, e6, st6⟩ := getF X5 hx hZ hown (host := "") (Or.inl (own_w hw 12 rfl)) Via.refl e5 Sb.2.1 (g := (mkF m 62 #[.val (.ref ob), .val (.int x), .val (.double (FP.i2d (sv x))), .second, .val (.int 0), .val (.int 1)] [(.ref ob), (.int d1), (.double (FP.i2d (sv d2))), (.int d2), (.ref ob)])) rfl rfl (hb hby d15_62)
  refine own_by (fun _ K => st6 _ K) ?_
  show OwnG p e below s _ _ _ (T6.setTop (mkF m 65 _ [(.ref sa), (.int d1), (.double (FP.i2d (sv d2))), (.int d2), (.ref ob)]))
  refine own_by (fun _ K => XS.iload X6.here hx rfl (hb hby d15_65) rfl K) ?_
  show OwnG p e below s _ _ _ (T6.setTop (mkF m 67 _ [(.int 1), (.ref sa), (.int d1), (.double (FP.i2d (sv d2))), (.int d2), (.ref ob)]))
  refine own_by (fun _ K => own_ldD X6 hx hZ e6 Sb.2.2.2.2.2.2.2.1 (j := (1 : Int32)) (i := 1) ⟨by decide, rfl, by decide⟩ (v := (.double (FP.i2d (sv d1)))) t1.2.1 (g := (mkF m 67 #[.val (.ref ob), .val (.int x), .val (.double (FP.i2d (sv x))), .second, .val (.int 0), .val (.int 1)] [(.int 1), (.ref sa), (.int d1), (.double (FP.i2d (sv d2))), (.int d2), (.ref ob)])) rfl rfl (hb hby d15_67) _ K) ?_
  show OwnG p e below s _ _ _ (T6.setTop (mkF m 68 _ [(.double (FP.i2d (sv d1))), (.int d1), (.double (FP.i2d (sv d2))), (.int d2), (.ref ob)]))
  obtain ⟨cq7, q7, q7'⟩ := Exa.cell Sb.1
  obtain ⟨_, _, ⟨T7, L7, k7, n7⟩, -, X7, ⟨Lc7, hQ7, l7, y7, z7⟩, st7⟩ := X6.privateBack hx (y := (⟨"com/example/etsinta/etsinta/search/Best", "worse", "(IDID)Z"⟩ : MethodName)) hown (mvT hZ (own_w hw 69 rfl)) (mvT hZ (own_w hw 70 rfl)) (own_selp hZ (y := (⟨"com/example/etsinta/etsinta/search/Best", "worse", "(IDID)Z"⟩ : MethodName)) (own_w hw 4 rfl) (own_w hw 71 rfl) (own_w hw 70 rfl) (by decide)) (Cond.privateMethod_at (mvP hZ (own_w hw 71 rfl) (args := #[]))) (mvT hZ (own_w hw 72 rfl)) (by decide) (backOf (W := 0) (rm14 l Z a0 hw [] sv pl ob sa da pa (3 : Int32) fd fs fp d2 d1 h0 n0 Z0 ⟨Sb.1, Sb.2.1, Sb.2.2.1, Sb.2.2.2.1, Sb.2.2.2.2.1, Sb.2.2.2.2.2.1, Sb.2.2.2.2.2.2.1, Sb.2.2.2.2.2.2.2.1, Sb.2.2.2.2.2.2.2.2⟩ hP t2.2.2 t1.2.2) hZ (own_w hw 72 rfl) (own_w hw 5 rfl) (by decide) (by decide)) (g := (mkF m 68 #[.val (.ref ob), .val (.int x), .val (.double (FP.i2d (sv x))), .second, .val (.int 0), .val (.int 1)] [(.double (FP.i2d (sv d1))), (.int d1), (.double (FP.i2d (sv d2))), (.int d2), (.ref ob)])) rfl (by rw [hml]; rfl) (Steps.refl _) (a := ob) (by rw [e6]; exact q7) q7' (argsL := [(.int d2), (.double (FP.i2d (sv d2))), (.int d1), (.double (FP.i2d (sv d1)))]) (rest := []) (lenOf pd_0 rfl) rfl (by show 2 * 0 + _ ≤ _; exact Nat.le_of_eq rfl) (hb hby d15_68) (fun _ _ => ⟨rfl, e6, (by decide : 0 + 0 ≤ _), (by decide : 0 + 0 ≤ _)⟩)
  dsimp only [Pt.U, Pt.locs, Pt.cells, Pt.slots] at X7 l7 y7 z7 st7 hQ7
  subst l7 y7 z7
  refine own_by (fun _ K => st7.trans K) ?_
  obtain ⟨rfl, N7q, hh7⟩ := hQ7
  have N7 := Fr.app N0 N7q
  have f8 := Sb.1
  rw [← hh7] at f8
  have f9 := Sb.2.1
  rw [← hh7] at f9
  have f10 := Sb.2.2.1
  rw [← hh7] at f10
  have f11 := Sb.2.2.2.1
  rw [← hh7] at f11
  have f12 := Sb.2.2.2.2.1
  rw [← hh7] at f12
  have f13 := Sb.2.2.2.2.2.1
  rw [← hh7] at f13
  have f14 := Sb.2.2.2.2.2.2.1
  rw [← hh7] at f14
  have f15 := Sb.2.2.2.2.2.2.2.1
  rw [← hh7] at f15
  have f16 := Sb.2.2.2.2.2.2.2.2
  rw [← hh7] at f16
  have f17 : Keep h0 T7.heap [sa, da] := by rw [hh7]; exact (Keep.refl h0 [sa, da])
  have sz7 : n0 ≤ T7.heap.size := by rw [hh7]; exact Z0
  show OwnG p e below s _ _ _ (T7.setTop (mkF m 71 _ [(.int (own_b (own_K sv pl d2 < own_K sv pl d1)))]))
  by_cases hK18 : own_K sv pl d2 < own_K sv pl d1
  · rw [own_bT hK18]
    show OwnG p e below s _ _ _ (T7.setTop (mkF m 71 #[.val (.ref ob), .val (.int x), .val (.double (FP.i2d (sv x))), .second, .val (.int 0), .val (.int 1)] [(.int 1)]))
    refine own_by (fun _ K => XS.ifNo X7.here hx rfl (hb hby d15_71) rfl ((if0 _ _).trans (feq (by decide)).1) K) ?_
    show OwnG p e below s _ _ _ (T7.setTop (mkF m 74 _ []))
    refine own_by (fun _ K => XS.iinc X7.here hx rfl (hb hby d15_74) rfl (l' := #[.val (.ref ob), .val (.int x), .val (.double (FP.i2d (sv x))), .second, .val (.int 0), .val (.int 2)]) rfl K) ?_
    show OwnG p e below s _ _ _ (T7.setTop (mkF m 77 _ []))
    refine own_by (fun _ K => XS.aloadN X7.here hx rfl (hb hby d15_77) rfl rfl K) ?_
    show OwnG p e below s _ _ _ (T7.setTop (mkF m 78 _ [(.ref ob)]))
    refine own_by (fun _ K => XS.aloadN X7.here hx rfl (hb hby d15_78) rfl rfl K) ?_
    show OwnG p e below s _ _ _ (T7.setTop (mkF m 79 _ [(.ref ob), (.ref ob)]))
    obtain ⟨T19, X19, e19, st19⟩ := getF X7 hx hZ hown (host := "") (Or.inl (own_w hw 14 rfl)) Via.refl (rfl : T7.heap = T7.heap) f10 (g := (mkF m 79 #[.val (.ref ob), .val (.int x), .val (.double (FP.i2d (sv x))), .second, .val (.int 0), .val (.int 2)] [(.ref ob), (.ref ob)])) rfl rfl (hb hby d15_79)
    refine own_by (fun _ K => st19 _ K) ?_
    show OwnG p e below s _ _ _ (T19.setTop (mkF m 82 _ [(.ref da), (.ref ob)]))
    refine own_by (fun _ K => XS.iload X19.here hx rfl (hb hby d15_82) rfl K) ?_
    show OwnG p e below s _ _ _ (T19.setTop (mkF m 84 _ [(.int 2), (.ref da), (.ref ob)]))
    refine own_by (fun _ K => own_ldI X19 hx hZ e19 f14 (j := (2 : Int32)) (i := 2) ⟨by decide, rfl, by decide⟩ (v := (.int d2)) t2.1 (g := (mkF m 84 #[.val (.ref ob), .val (.int x), .val (.double (FP.i2d (sv x))), .second, .val (.int 0), .val (.int 2)] [(.int 2), (.ref da), (.ref ob)])) rfl rfl (hb hby d15_84) _ K) ?_
    show OwnG p e below s _ _ _ (T19.setTop (mkF m 85 _ [(.int d2), (.ref ob)]))
    refine own_by (fun _ K => XS.aloadN X19.here hx rfl (hb hby d15_85) rfl rfl K) ?_
    show OwnG p e below s _ _ _ (T19.setTop (mkF m 86 _ [(.ref ob), (.int d2), (.ref ob)]))
    obtain ⟨T20, X20, e20, st20⟩ := getF X19 hx hZ hown (host := "") (Or.inl (own_w hw 12 rfl)) Via.refl e19 f9 (g := (mkF m 86 #[.val (.ref ob), .val (.int x), .val (.double (FP.i2d (sv x))), .second, .val (.int 0), .val (.int 2)] [(.ref ob), (.int d2), (.ref ob)])) rfl rfl (hb hby d15_86)
    refine own_by (fun _ K => st20 _ K) ?_
    show OwnG p e below s _ _ _ (T20.setTop (mkF m 89 _ [(.ref sa), (.int d2), (.ref ob)]))
    refine own_by (fun _ K => XS.iload X20.here hx rfl (hb hby d15_89) rfl K) ?_
    show OwnG p e below s _ _ _ (T20.setTop (mkF m 91 _ [(.int 2), (.ref sa), (.int d2), (.ref ob)]))
    refine own_by (fun _ K => own_ldD X20 hx hZ e20 f15 (j := (2 : Int32)) (i := 2) ⟨by decide, rfl, by decide⟩ (v := (.double (FP.i2d (sv d2)))) t2.2.1 (g := (mkF m 91 #[.val (.ref ob), .val (.int x), .val (.double (FP.i2d (sv x))), .second, .val (.int 0), .val (.int 2)] [(.int 2), (.ref sa), (.int d2), (.ref ob)])) rfl rfl (hb hby d15_91) _ K) ?_
    show OwnG p e below s _ _ _ (T20.setTop (mkF m 92 _ [(.double (FP.i2d (sv d2))), (.int d2), (.ref ob)]))
    refine own_by (fun _ K => XS.iloadN X20.here hx rfl (hb hby d15_92) rfl K) ?_
    show OwnG p e below s _ _ _ (T20.setTop (mkF m 93 _ [(.int x), (.double (FP.i2d (sv d2))), (.int d2), (.ref ob)]))
    refine own_by (fun _ K => XS.dloadN X20.here hx rfl (hb hby d15_93) rfl K) ?_
    show OwnG p e below s _ _ _ (T20.setTop (mkF m 94 _ [(.double (FP.i2d (sv x))), (.int x), (.double (FP.i2d (sv d2))), (.int d2), (.ref ob)]))
    obtain ⟨cq21, q21, q21'⟩ := Exa.cell f8
    obtain ⟨_, _, ⟨T21, L21, k21, n21⟩, -, X21, ⟨Lc21, hQ21, l21, y21, z21⟩, st21⟩ := X20.privateBack hx (y := (⟨"com/example/etsinta/etsinta/search/Best", "worse", "(IDID)Z"⟩ : MethodName)) hown (mvT hZ (own_w hw 69 rfl)) (mvT hZ (own_w hw 70 rfl)) (own_selp hZ (y := (⟨"com/example/etsinta/etsinta/search/Best", "worse", "(IDID)Z"⟩ : MethodName)) (own_w hw 4 rfl) (own_w hw 71 rfl) (own_w hw 70 rfl) (by decide)) (Cond.privateMethod_at (mvP hZ (own_w hw 71 rfl) (args := #[]))) (mvT hZ (own_w hw 72 rfl)) (by decide) (backOf (W := 0) (rm14 l Z a0 hw [] sv pl ob sa da pa (3 : Int32) fd fs fp d2 x T7.heap n0 sz7 ⟨f8, f9, f10, f11, f12, f13, f14, f15, f16⟩ hP t2.2.2 k_x) hZ (own_w hw 72 rfl) (own_w hw 5 rfl) (by decide) (by decide)) (g := (mkF m 94 #[.val (.ref ob), .val (.int x), .val (.double (FP.i2d (sv x))), .second, .val (.int 0), .val (.int 2)] [(.double (FP.i2d (sv x))), (.int x), (.double (FP.i2d (sv d2))), (.int d2), (.ref ob)])) rfl (by rw [hml]; rfl) (Steps.refl _) (a := ob) (by rw [e20]; exact q21) q21' (argsL := [(.int d2), (.double (FP.i2d (sv d2))), (.int x), (.double (FP.i2d (sv x)))]) (rest := []) (lenOf pd_0 rfl) rfl (by show 2 * 0 + _ ≤ _; exact Nat.le_of_eq rfl) (hb hby d15_94) (fun _ _ => ⟨rfl, e20, (by decide : 0 + 0 ≤ _), (by decide : 0 + 0 ≤ _)⟩)
    dsimp only [Pt.U, Pt.locs, Pt.cells, Pt.slots] at X21 l21 y21 z21 st21 hQ21
    subst l21 y21 z21
    refine own_by (fun _ K => st21.trans K) ?_
    obtain ⟨rfl, N21q, hh21⟩ := hQ21
    have N21 := Fr.app N7 N21q
    have f22 := f8
    rw [← hh21] at f22
    have f23 := f9
    rw [← hh21] at f23
    have f24 := f10
    rw [← hh21] at f24
    have f25 := f11
    rw [← hh21] at f25
    have f26 := f12
    rw [← hh21] at f26
    have f27 := f13
    rw [← hh21] at f27
    have f28 := f14
    rw [← hh21] at f28
    have f29 := f15
    rw [← hh21] at f29
    have f30 := f16
    rw [← hh21] at f30
    have f31 : Keep h0 T21.heap [sa, da] := by rw [hh21]; exact f17
    have sz21 : n0 ≤ T21.heap.size := by rw [hh21]; exact sz7
    show OwnG p e below s _ _ _ (T21.setTop (mkF m 97 _ [(.int (own_b (own_K sv pl d2 < own_K sv pl x)))]))
    by_cases hK32 : own_K sv pl d2 < own_K sv pl x
    · rw [own_bT hK32]
      show OwnG p e below s _ _ _ (T21.setTop (mkF m 97 #[.val (.ref ob), .val (.int x), .val (.double (FP.i2d (sv x))), .second, .val (.int 0), .val (.int 2)] [(.int 1)]))
      refine own_by (fun _ K => XS.ifYes X21.here hx rfl (pc0 := 97) (pc' := 103) rfl (hb hby d15_97) rfl ((if0 _ _).trans (feq (by decide)).2) (by decide) (by decide) K) ?_
      show OwnG p e below s _ _ _ (T21.setTop (mkF m 103 _ []))
      refine own_by (fun _ K => XS.aloadN X21.here hx rfl (hb hby d15_103) rfl rfl K) ?_
      show OwnG p e below s _ _ _ (T21.setTop (mkF m 104 _ [(.ref ob)]))
      obtain ⟨T33, X33, e33, st33⟩ := getF X21 hx hZ hown (host := "") (Or.inl (own_w hw 14 rfl)) Via.refl (rfl : T21.heap = T21.heap) f24 (g := (mkF m 104 #[.val (.ref ob), .val (.int x), .val (.double (FP.i2d (sv x))), .second, .val (.int 0), .val (.int 2)] [(.ref ob)])) rfl rfl (hb hby d15_104)
      refine own_by (fun _ K => st33 _ K) ?_
      show OwnG p e below s _ _ _ (T33.setTop (mkF m 107 _ [(.ref da)]))
      refine own_by (fun _ K => XS.iload X33.here hx rfl (hb hby d15_107) rfl K) ?_
      show OwnG p e below s _ _ _ (T33.setTop (mkF m 109 _ [(.int 0), (.ref da)]))
      refine own_by (fun _ K => XS.aloadN X33.here hx rfl (hb hby d15_109) rfl rfl K) ?_
      show OwnG p e below s _ _ _ (T33.setTop (mkF m 110 _ [(.ref ob), (.int 0), (.ref da)]))
      obtain ⟨T34, X34, e34, st34⟩ := getF X33 hx hZ hown (host := "") (Or.inl (own_w hw 14 rfl)) Via.refl e33 f24 (g := (mkF m 110 #[.val (.ref ob), .val (.int x), .val (.double (FP.i2d (sv x))), .second, .val (.int 0), .val (.int 2)] [(.ref ob), (.int 0), (.ref da)])) rfl rfl (hb hby d15_110)
      refine own_by (fun _ K => st34 _ K) ?_
      show OwnG p e below s _ _ _ (T34.setTop (mkF m 113 _ [(.ref da), (.int 0), (.ref da)]))
      refine own_by (fun _ K => XS.iload X34.here hx rfl (hb hby d15_113) rfl K) ?_
      show OwnG p e below s _ _ _ (T34.setTop (mkF m 115 _ [(.int 2), (.ref da), (.int 0), (.ref da)]))
      refine own_by (fun _ K => own_ldI X34 hx hZ e34 f28 (j := (2 : Int32)) (i := 2) ⟨by decide, rfl, by decide⟩ (v := (.int d2)) t2.1 (g := (mkF m 115 #[.val (.ref ob), .val (.int x), .val (.double (FP.i2d (sv x))), .second, .val (.int 0), .val (.int 2)] [(.int 2), (.ref da), (.int 0), (.ref da)])) rfl rfl (hb hby d15_115) _ K) ?_
      show OwnG p e below s _ _ _ (T34.setTop (mkF m 116 _ [(.int d2), (.int 0), (.ref da)]))
      obtain ⟨T35, h35, X35, e35, W35, A35, st35⟩ := own_stI X34 hx hZ e34 f28 (j := (0 : Int32)) (i := 0) ⟨by decide, rfl, by decide⟩ (g := (mkF m 116 #[.val (.ref ob), .val (.int x), .val (.double (FP.i2d (sv x))), .second, .val (.int 0), .val (.int 2)] [(.int d2), (.int 0), (.ref da)])) rfl rfl (hb hby d15_116)
      refine own_by (fun _ K => st35 _ K) ?_
      have f36 := Exa.wr W35 f22
      have f37 := Fld.other W35 f23 (Or.inl Nn.2.2.2.2.1)
      have f38 := Fld.other W35 f24 (Or.inl Nn.2.2.2.2.1)
      have f39 := Fld.other W35 f25 (Or.inl Nn.2.2.2.2.1)
      have f40 := Fld.other W35 f26 (Or.inl Nn.2.2.2.2.1)
      have f41 := Fld.other W35 f27 (Or.inl Nn.2.2.2.2.1)
      have f43 := OwnA.other W35 f29 Nn.2.2.2.2.2.2.1
      have f44 := OwnA.other W35 f30 (Ne.symm Nn.2.2.2.2.2.2.2.2)
      have f45 := Keep.wr f31 W35 (Or.inl (by simp))
      have N35 := Fr.snoc X35 N21 Nn.2.2.1
      have sz35 : n0 ≤ h35.size := by rw [W35.size]; exact sz21
      show OwnG p e below s _ _ _ (T35.setTop (mkF m 117 _ []))
      refine own_by (fun _ K => XS.aloadN X35.here hx rfl (hb hby d15_117) rfl rfl K) ?_
      show OwnG p e below s _ _ _ (T35.setTop (mkF m 118 _ [(.ref ob)]))
      obtain ⟨T46, X46, e46, st46⟩ := getF X35 hx hZ hown (host := "") (Or.inl (own_w hw 12 rfl)) Via.refl e35 f37 (g := (mkF m 118 #[.val (.ref ob), .val (.int x), .val (.double (FP.i2d (sv x))), .second, .val (.int 0), .val (.int 2)] [(.ref ob)])) rfl rfl (hb hby d15_118)
      refine own_by (fun _ K => st46 _ K) ?_
      show OwnG p e below s _ _ _ (T46.setTop (mkF m 121 _ [(.ref sa)]))
      refine own_by (fun _ K => XS.iload X46.here hx rfl (hb hby d15_121) rfl K) ?_
      show OwnG p e below s _ _ _ (T46.setTop (mkF m 123 _ [(.int 0), (.ref sa)]))
      refine own_by (fun _ K => XS.aloadN X46.here hx rfl (hb hby d15_123) rfl rfl K) ?_
      show OwnG p e below s _ _ _ (T46.setTop (mkF m 124 _ [(.ref ob), (.int 0), (.ref sa)]))
      obtain ⟨T47, X47, e47, st47⟩ := getF X46 hx hZ hown (host := "") (Or.inl (own_w hw 12 rfl)) Via.refl e46 f37 (g := (mkF m 124 #[.val (.ref ob), .val (.int x), .val (.double (FP.i2d (sv x))), .second, .val (.int 0), .val (.int 2)] [(.ref ob), (.int 0), (.ref sa)])) rfl rfl (hb hby d15_124)
      refine own_by (fun _ K => st47 _ K) ?_
      show OwnG p e below s _ _ _ (T47.setTop (mkF m 127 _ [(.ref sa), (.int 0), (.ref sa)]))
      refine own_by (fun _ K => XS.iload X47.here hx rfl (hb hby d15_127) rfl K) ?_
      show OwnG p e below s _ _ _ (T47.setTop (mkF m 129 _ [(.int 2), (.ref sa), (.int 0), (.ref sa)]))
      refine own_by (fun _ K => own_ldD X47 hx hZ e47 f43 (j := (2 : Int32)) (i := 2) ⟨by decide, rfl, by decide⟩ (v := (.double (FP.i2d (sv d2)))) t2.2.1 (g := (mkF m 129 #[.val (.ref ob), .val (.int x), .val (.double (FP.i2d (sv x))), .second, .val (.int 0), .val (.int 2)] [(.int 2), (.ref sa), (.int 0), (.ref sa)])) rfl rfl (hb hby d15_129) _ K) ?_
      show OwnG p e below s _ _ _ (T47.setTop (mkF m 130 _ [(.double (FP.i2d (sv d2))), (.int 0), (.ref sa)]))
      obtain ⟨T48, h48, X48, e48, W48, A48, st48⟩ := own_stD X47 hx hZ e47 f43 (j := (0 : Int32)) (i := 0) ⟨by decide, rfl, by decide⟩ (g := (mkF m 130 #[.val (.ref ob), .val (.int x), .val (.double (FP.i2d (sv x))), .second, .val (.int 0), .val (.int 2)] [(.double (FP.i2d (sv d2))), (.int 0), (.ref sa)])) rfl rfl (hb hby d15_130)
      refine own_by (fun _ K => st48 _ K) ?_
      have f49 := Exa.wr W48 f36
      have f50 := Fld.other W48 f37 (Or.inl Nn.2.2.2.1)
      have f51 := Fld.other W48 f38 (Or.inl Nn.2.2.2.1)
      have f52 := Fld.other W48 f39 (Or.inl Nn.2.2.2.1)
      have f53 := Fld.other W48 f40 (Or.inl Nn.2.2.2.1)
      have f54 := Fld.other W48 f41 (Or.inl Nn.2.2.2.1)
      have f55 := OwnA.other W48 A35 (Ne.symm Nn.2.2.2.2.2.2.1)
      have f57 := OwnA.other W48 f44 (Ne.symm Nn.2.2.2.2.2.2.2.1)
      have f58 := Keep.wr f45 W48 (Or.inl (by simp))
      have N48 := Fr.snoc X48 N35 Nn.2.1
      have sz48 : n0 ≤ h48.size := by rw [W48.size]; exact sz35
      show OwnG p e below s _ _ _ (T48.setTop (mkF m 131 _ []))
      refine own_by (fun _ K => XS.iload X48.here hx rfl (hb hby d15_131) rfl K) ?_
      show OwnG p e below s _ _ _ (T48.setTop (mkF m 133 _ [(.int 2)]))
      refine own_by (fun _ K => XS.istore X48.here hx rfl (hb hby d15_133) rfl (l' := #[.val (.ref ob), .val (.int x), .val (.double (FP.i2d (sv x))), .second, .val (.int 2), .val (.int 2)]) rfl K) ?_
      show OwnG p e below s _ _ _ (T48.setTop (mkF m 135 _ []))
      refine own_by (fun _ K => XS.goto X48.here hx rfl (pc0 := 135) (pc' := 3) rfl (hb hby d15_135) (by decide) (by decide) K) ?_
      show OwnG p e below s _ _ _ (T48.setTop (mkF m 3 _ []))
      refine own_by (fun _ K => XS.iconst X48.here hx rfl (hb hby d15_3) K) ?_
      show OwnG p e below s _ _ _ (T48.setTop (mkF m 4 _ [(.int 2)]))
      refine own_by (fun _ K => XS.iload X48.here hx rfl (hb hby d15_4) rfl K) ?_
      show OwnG p e below s _ _ _ (T48.setTop (mkF m 6 _ [(.int 2), (.int 2)]))
      refine own_by (fun _ K => XS.imul X48.here hx rfl (hb hby d15_6) rfl K) ?_
      show OwnG p e below s _ _ _ (T48.setTop (mkF m 7 _ [(.int 4)]))
      refine own_by (fun _ K => XS.iconst X48.here hx rfl (hb hby d15_7) K) ?_
      show OwnG p e below s _ _ _ (T48.setTop (mkF m 8 _ [(.int 1), (.int 4)]))
      refine own_by (fun _ K => XS.iadd X48.here hx rfl (hb hby d15_8) rfl K) ?_
      show OwnG p e below s _ _ _ (T48.setTop (mkF m 9 _ [(.int 5)]))
      refine own_by (fun _ K => XS.aloadN X48.here hx rfl (hb hby d15_9) rfl rfl K) ?_
      show OwnG p e below s _ _ _ (T48.setTop (mkF m 10 _ [(.ref ob), (.int 5)]))
      obtain ⟨T59, X59, e59, st59⟩ := getF X48 hx hZ hown (host := "") (Or.inl (own_w hw 25 rfl)) Via.refl e48 f54 (g := (mkF m 10 #[.val (.ref ob), .val (.int x), .val (.double (FP.i2d (sv x))), .second, .val (.int 2), .val (.int 2)] [(.ref ob), (.int 5)])) rfl rfl (hb hby d15_10)
      refine own_by (fun _ K => st59 _ K) ?_
      show OwnG p e below s _ _ _ (T59.setTop (mkF m 13 _ [(.int 3), (.int 5)]))
      refine own_by (fun _ K => XS.icmpYes X59.here hx rfl (pc0 := 13) (pc' := 138) rfl (hb hby d15_13) rfl (flt (by decide)).2.1 (by decide) (by decide) K) ?_
      show OwnG p e below s _ _ _ (T59.setTop (mkF m 138 _ []))
      refine own_by (fun _ K => XS.aloadN X59.here hx rfl (hb hby d15_138) rfl rfl K) ?_
      show OwnG p e below s _ _ _ (T59.setTop (mkF m 139 _ [(.ref ob)]))
      obtain ⟨T60, X60, e60, st60⟩ := getF X59 hx hZ hown (host := "") (Or.inl (own_w hw 14 rfl)) Via.refl e59 f51 (g := (mkF m 139 #[.val (.ref ob), .val (.int x), .val (.double (FP.i2d (sv x))), .second, .val (.int 2), .val (.int 2)] [(.ref ob)])) rfl rfl (hb hby d15_139)
      refine own_by (fun _ K => st60 _ K) ?_
      show OwnG p e below s _ _ _ (T60.setTop (mkF m 142 _ [(.ref da)]))
      refine own_by (fun _ K => XS.iload X60.here hx rfl (hb hby d15_142) rfl K) ?_
      show OwnG p e below s _ _ _ (T60.setTop (mkF m 144 _ [(.int 2), (.ref da)]))
      refine own_by (fun _ K => XS.iloadN X60.here hx rfl (hb hby d15_144) rfl K) ?_
      show OwnG p e below s _ _ _ (T60.setTop (mkF m 145 _ [(.int x), (.int 2), (.ref da)]))
      obtain ⟨T61, h61, X61, e61, W61, A61, st61⟩ := own_stI X60 hx hZ e60 f55 (j := (2 : Int32)) (i := 2) ⟨by decide, rfl, by decide⟩ (g := (mkF m 145 #[.val (.ref ob), .val (.int x), .val (.double (FP.i2d (sv x))), .second, .val (.int 2), .val (.int 2)] [(.int x), (.int 2), (.ref da)])) rfl rfl (hb hby d15_145)
      refine own_by (fun _ K => st61 _ K) ?_
      have f62 := Exa.wr W61 f49
      have f63 := Fld.other W61 f50 (Or.inl Nn.2.2.2.2.1)
      have f64 := Fld.other W61 f51 (Or.inl Nn.2.2.2.2.1)
      have f65 := Fld.other W61 f52 (Or.inl Nn.2.2.2.2.1)
      have f66 := Fld.other W61 f53 (Or.inl Nn.2.2.2.2.1)
      have f67 := Fld.other W61 f54 (Or.inl Nn.2.2.2.2.1)
      have f69 := OwnA.other W61 A48 Nn.2.2.2.2.2.2.1
      have f70 := OwnA.other W61 f57 (Ne.symm Nn.2.2.2.2.2.2.2.2)
      have f71 := Keep.wr f58 W61 (Or.inl (by simp))
      have N61 := Fr.snoc X61 N48 Nn.2.2.1
      have sz61 : n0 ≤ h61.size := by rw [W61.size]; exact sz48
      show OwnG p e below s _ _ _ (T61.setTop (mkF m 146 _ []))
      refine own_by (fun _ K => XS.aloadN X61.here hx rfl (hb hby d15_146) rfl rfl K) ?_
      show OwnG p e below s _ _ _ (T61.setTop (mkF m 147 _ [(.ref ob)]))
      obtain ⟨T72, X72, e72, st72⟩ := getF X61 hx hZ hown (host := "") (Or.inl (own_w hw 12 rfl)) Via.refl e61 f63 (g := (mkF m 147 #[.val (.ref ob), .val (.int x), .val (.double (FP.i2d (sv x))), .second, .val (.int 2), .val (.int 2)] [(.ref ob)])) rfl rfl (hb hby d15_147)
      refine own_by (fun _ K => st72 _ K) ?_
      show OwnG p e below s _ _ _ (T72.setTop (mkF m 150 _ [(.ref sa)]))
      refine own_by (fun _ K => XS.iload X72.here hx rfl (hb hby d15_150) rfl K) ?_
      show OwnG p e below s _ _ _ (T72.setTop (mkF m 152 _ [(.int 2), (.ref sa)]))
      refine own_by (fun _ K => XS.dloadN X72.here hx rfl (hb hby d15_152) rfl K) ?_
      show OwnG p e below s _ _ _ (T72.setTop (mkF m 153 _ [(.double (FP.i2d (sv x))), (.int 2), (.ref sa)]))
      obtain ⟨T73, h73, X73, e73, W73, A73, st73⟩ := own_stD X72 hx hZ e72 f69 (j := (2 : Int32)) (i := 2) ⟨by decide, rfl, by decide⟩ (g := (mkF m 153 #[.val (.ref ob), .val (.int x), .val (.double (FP.i2d (sv x))), .second, .val (.int 2), .val (.int 2)] [(.double (FP.i2d (sv x))), (.int 2), (.ref sa)])) rfl rfl (hb hby d15_153)
      refine own_by (fun _ K => st73 _ K) ?_
      have f74 := Exa.wr W73 f62
      have f75 := Fld.other W73 f63 (Or.inl Nn.2.2.2.1)
      have f76 := Fld.other W73 f64 (Or.inl Nn.2.2.2.1)
      have f77 := Fld.other W73 f65 (Or.inl Nn.2.2.2.1)
      have f78 := Fld.other W73 f66 (Or.inl Nn.2.2.2.1)
      have f79 := Fld.other W73 f67 (Or.inl Nn.2.2.2.1)
      have f80 := OwnA.other W73 A61 (Ne.symm Nn.2.2.2.2.2.2.1)
      have f82 := OwnA.other W73 f70 (Ne.symm Nn.2.2.2.2.2.2.2.1)
      have f83 := Keep.wr f71 W73 (Or.inl (by simp))
      have N73 := Fr.snoc X73 N61 Nn.2.1
      have sz73 : n0 ≤ h73.size := by rw [W73.size]; exact sz61
      show OwnG p e below s _ _ _ (T73.setTop (mkF m 154 _ []))
      exact own_outV X73 hx hret hlk (hb hby d15_154) (by show _ ∧ _; rw [e73]; exact ⟨rfl, N73, f83, _, _, d2, d1, x, ⟨f74, f75, f76, f77, f78, f79, f80, A73, f82⟩, ⟨rfl, rfl, t2.2.2⟩, ⟨t1.1, t1.2.1, t1.2.2⟩, ⟨rfl, rfl, k_x⟩, (by unfold own_D3; rw [if_pos hK18, if_pos hK32]; exact ⟨rfl, rfl, rfl⟩), fun i hi => ⟨by repeat rw [own_sn (by omega)], by repeat rw [own_sn (by omega)]⟩⟩) (by decide) (by decide)
    · rw [own_bF hK32]
      show OwnG p e below s _ _ _ (T21.setTop (mkF m 97 #[.val (.ref ob), .val (.int x), .val (.double (FP.i2d (sv x))), .second, .val (.int 0), .val (.int 2)] [(.int 0)]))
      refine own_by (fun _ K => XS.ifNo X21.here hx rfl (hb hby d15_97) rfl ((if0 _ _).trans (teq (by decide)).2) K) ?_
      show OwnG p e below s _ _ _ (T21.setTop (mkF m 100 _ []))
      refine own_by (fun _ K => XS.goto X21.here hx rfl (pc0 := 100) (pc' := 138) rfl (hb hby d15_100) (by decide) (by decide) K) ?_
      show OwnG p e below s _ _ _ (T21.setTop (mkF m 138 _ []))
      refine own_by (fun _ K => XS.aloadN X21.here hx rfl (hb hby d15_138) rfl rfl K) ?_
      show OwnG p e below s _ _ _ (T21.setTop (mkF m 139 _ [(.ref ob)]))
      obtain ⟨T84, X84, e84, st84⟩ := getF X21 hx hZ hown (host := "") (Or.inl (own_w hw 14 rfl)) Via.refl (rfl : T21.heap = T21.heap) f24 (g := (mkF m 139 #[.val (.ref ob), .val (.int x), .val (.double (FP.i2d (sv x))), .second, .val (.int 0), .val (.int 2)] [(.ref ob)])) rfl rfl (hb hby d15_139)
      refine own_by (fun _ K => st84 _ K) ?_
      show OwnG p e below s _ _ _ (T84.setTop (mkF m 142 _ [(.ref da)]))
      refine own_by (fun _ K => XS.iload X84.here hx rfl (hb hby d15_142) rfl K) ?_
      show OwnG p e below s _ _ _ (T84.setTop (mkF m 144 _ [(.int 0), (.ref da)]))
      refine own_by (fun _ K => XS.iloadN X84.here hx rfl (hb hby d15_144) rfl K) ?_
      show OwnG p e below s _ _ _ (T84.setTop (mkF m 145 _ [(.int x), (.int 0), (.ref da)]))
      obtain ⟨T85, h85, X85, e85, W85, A85, st85⟩ := own_stI X84 hx hZ e84 f28 (j := (0 : Int32)) (i := 0) ⟨by decide, rfl, by decide⟩ (g := (mkF m 145 #[.val (.ref ob), .val (.int x), .val (.double (FP.i2d (sv x))), .second, .val (.int 0), .val (.int 2)] [(.int x), (.int 0), (.ref da)])) rfl rfl (hb hby d15_145)
      refine own_by (fun _ K => st85 _ K) ?_
      have f86 := Exa.wr W85 f22
      have f87 := Fld.other W85 f23 (Or.inl Nn.2.2.2.2.1)
      have f88 := Fld.other W85 f24 (Or.inl Nn.2.2.2.2.1)
      have f89 := Fld.other W85 f25 (Or.inl Nn.2.2.2.2.1)
      have f90 := Fld.other W85 f26 (Or.inl Nn.2.2.2.2.1)
      have f91 := Fld.other W85 f27 (Or.inl Nn.2.2.2.2.1)
      have f93 := OwnA.other W85 f29 Nn.2.2.2.2.2.2.1
      have f94 := OwnA.other W85 f30 (Ne.symm Nn.2.2.2.2.2.2.2.2)
      have f95 := Keep.wr f31 W85 (Or.inl (by simp))
      have N85 := Fr.snoc X85 N21 Nn.2.2.1
      have sz85 : n0 ≤ h85.size := by rw [W85.size]; exact sz21
      show OwnG p e below s _ _ _ (T85.setTop (mkF m 146 _ []))
      refine own_by (fun _ K => XS.aloadN X85.here hx rfl (hb hby d15_146) rfl rfl K) ?_
      show OwnG p e below s _ _ _ (T85.setTop (mkF m 147 _ [(.ref ob)]))
      obtain ⟨T96, X96, e96, st96⟩ := getF X85 hx hZ hown (host := "") (Or.inl (own_w hw 12 rfl)) Via.refl e85 f87 (g := (mkF m 147 #[.val (.ref ob), .val (.int x), .val (.double (FP.i2d (sv x))), .second, .val (.int 0), .val (.int 2)] [(.ref ob)])) rfl rfl (hb hby d15_147)
      refine own_by (fun _ K => st96 _ K) ?_
      show OwnG p e below s _ _ _ (T96.setTop (mkF m 150 _ [(.ref sa)]))
      refine own_by (fun _ K => XS.iload X96.here hx rfl (hb hby d15_150) rfl K) ?_
      show OwnG p e below s _ _ _ (T96.setTop (mkF m 152 _ [(.int 0), (.ref sa)]))
      refine own_by (fun _ K => XS.dloadN X96.here hx rfl (hb hby d15_152) rfl K) ?_
      show OwnG p e below s _ _ _ (T96.setTop (mkF m 153 _ [(.double (FP.i2d (sv x))), (.int 0), (.ref sa)]))
      obtain ⟨T97, h97, X97, e97, W97, A97, st97⟩ := own_stD X96 hx hZ e96 f93 (j := (0 : Int32)) (i := 0) ⟨by decide, rfl, by decide⟩ (g := (mkF m 153 #[.val (.ref ob), .val (.int x), .val (.double (FP.i2d (sv x))), .second, .val (.int 0), .val (.int 2)] [(.double (FP.i2d (sv x))), (.int 0), (.ref sa)])) rfl rfl (hb hby d15_153)
      refine own_by (fun _ K => st97 _ K) ?_
      have f98 := Exa.wr W97 f86
      have f99 := Fld.other W97 f87 (Or.inl Nn.2.2.2.1)
      have f100 := Fld.other W97 f88 (Or.inl Nn.2.2.2.1)
      have f101 := Fld.other W97 f89 (Or.inl Nn.2.2.2.1)
      have f102 := Fld.other W97 f90 (Or.inl Nn.2.2.2.1)
      have f103 := Fld.other W97 f91 (Or.inl Nn.2.2.2.1)
      have f104 := OwnA.other W97 A85 (Ne.symm Nn.2.2.2.2.2.2.1)
      have f106 := OwnA.other W97 f94 (Ne.symm Nn.2.2.2.2.2.2.2.1)
      have f107 := Keep.wr f95 W97 (Or.inl (by simp))
      have N97 := Fr.snoc X97 N85 Nn.2.1
      have sz97 : n0 ≤ h97.size := by rw [W97.size]; exact sz85
      show OwnG p e below s _ _ _ (T97.setTop (mkF m 154 _ []))
      exact own_outV X97 hx hret hlk (hb hby d15_154) (by show _ ∧ _; rw [e97]; exact ⟨rfl, N97, f107, _, _, x, d1, d2, ⟨f98, f99, f100, f101, f102, f103, f104, A97, f106⟩, ⟨rfl, rfl, k_x⟩, ⟨t1.1, t1.2.1, t1.2.2⟩, ⟨t2.1, t2.2.1, t2.2.2⟩, (by unfold own_D3; rw [if_pos hK18, if_neg hK32]; exact ⟨rfl, rfl, rfl⟩), fun i hi => ⟨by repeat rw [own_sn (by omega)], by repeat rw [own_sn (by omega)]⟩⟩) (by decide) (by decide)
  · rw [own_bF hK18]
    show OwnG p e below s _ _ _ (T7.setTop (mkF m 71 #[.val (.ref ob), .val (.int x), .val (.double (FP.i2d (sv x))), .second, .val (.int 0), .val (.int 1)] [(.int 0)]))
    refine own_by (fun _ K => XS.ifYes X7.here hx rfl (pc0 := 71) (pc' := 77) rfl (hb hby d15_71) rfl ((if0 _ _).trans (teq (by decide)).1) (by decide) (by decide) K) ?_
    show OwnG p e below s _ _ _ (T7.setTop (mkF m 77 _ []))
    refine own_by (fun _ K => XS.aloadN X7.here hx rfl (hb hby d15_77) rfl rfl K) ?_
    show OwnG p e below s _ _ _ (T7.setTop (mkF m 78 _ [(.ref ob)]))
    refine own_by (fun _ K => XS.aloadN X7.here hx rfl (hb hby d15_78) rfl rfl K) ?_
    show OwnG p e below s _ _ _ (T7.setTop (mkF m 79 _ [(.ref ob), (.ref ob)]))
    obtain ⟨T108, X108, e108, st108⟩ := getF X7 hx hZ hown (host := "") (Or.inl (own_w hw 14 rfl)) Via.refl (rfl : T7.heap = T7.heap) f10 (g := (mkF m 79 #[.val (.ref ob), .val (.int x), .val (.double (FP.i2d (sv x))), .second, .val (.int 0), .val (.int 1)] [(.ref ob), (.ref ob)])) rfl rfl (hb hby d15_79)
    refine own_by (fun _ K => st108 _ K) ?_
    show OwnG p e below s _ _ _ (T108.setTop (mkF m 82 _ [(.ref da), (.ref ob)]))
    refine own_by (fun _ K => XS.iload X108.here hx rfl (hb hby d15_82) rfl K) ?_
    show OwnG p e below s _ _ _ (T108.setTop (mkF m 84 _ [(.int 1), (.ref da), (.ref ob)]))
    refine own_by (fun _ K => own_ldI X108 hx hZ e108 f14 (j := (1 : Int32)) (i := 1) ⟨by decide, rfl, by decide⟩ (v := (.int d1)) t1.1 (g := (mkF m 84 #[.val (.ref ob), .val (.int x), .val (.double (FP.i2d (sv x))), .second, .val (.int 0), .val (.int 1)] [(.int 1), (.ref da), (.ref ob)])) rfl rfl (hb hby d15_84) _ K) ?_
    show OwnG p e below s _ _ _ (T108.setTop (mkF m 85 _ [(.int d1), (.ref ob)]))
    refine own_by (fun _ K => XS.aloadN X108.here hx rfl (hb hby d15_85) rfl rfl K) ?_
    show OwnG p e below s _ _ _ (T108.setTop (mkF m 86 _ [(.ref ob), (.int d1), (.ref ob)]))
    obtain ⟨T109, X109, e109, st109⟩ := getF X108 hx hZ hown (host := "") (Or.inl (own_w hw 12 rfl)) Via.refl e108 f9 (g := (mkF m 86 #[.val (.ref ob), .val (.int x), .val (.double (FP.i2d (sv x))), .second, .val (.int 0), .val (.int 1)] [(.ref ob), (.int d1), (.ref ob)])) rfl rfl (hb hby d15_86)
    refine own_by (fun _ K => st109 _ K) ?_
    show OwnG p e below s _ _ _ (T109.setTop (mkF m 89 _ [(.ref sa), (.int d1), (.ref ob)]))
    refine own_by (fun _ K => XS.iload X109.here hx rfl (hb hby d15_89) rfl K) ?_
    show OwnG p e below s _ _ _ (T109.setTop (mkF m 91 _ [(.int 1), (.ref sa), (.int d1), (.ref ob)]))
    refine own_by (fun _ K => own_ldD X109 hx hZ e109 f15 (j := (1 : Int32)) (i := 1) ⟨by decide, rfl, by decide⟩ (v := (.double (FP.i2d (sv d1)))) t1.2.1 (g := (mkF m 91 #[.val (.ref ob), .val (.int x), .val (.double (FP.i2d (sv x))), .second, .val (.int 0), .val (.int 1)] [(.int 1), (.ref sa), (.int d1), (.ref ob)])) rfl rfl (hb hby d15_91) _ K) ?_
    show OwnG p e below s _ _ _ (T109.setTop (mkF m 92 _ [(.double (FP.i2d (sv d1))), (.int d1), (.ref ob)]))
    refine own_by (fun _ K => XS.iloadN X109.here hx rfl (hb hby d15_92) rfl K) ?_
    show OwnG p e below s _ _ _ (T109.setTop (mkF m 93 _ [(.int x), (.double (FP.i2d (sv d1))), (.int d1), (.ref ob)]))
    refine own_by (fun _ K => XS.dloadN X109.here hx rfl (hb hby d15_93) rfl K) ?_
    show OwnG p e below s _ _ _ (T109.setTop (mkF m 94 _ [(.double (FP.i2d (sv x))), (.int x), (.double (FP.i2d (sv d1))), (.int d1), (.ref ob)]))
    obtain ⟨cq110, q110, q110'⟩ := Exa.cell f8
    obtain ⟨_, _, ⟨T110, L110, k110, n110⟩, -, X110, ⟨Lc110, hQ110, l110, y110, z110⟩, st110⟩ := X109.privateBack hx (y := (⟨"com/example/etsinta/etsinta/search/Best", "worse", "(IDID)Z"⟩ : MethodName)) hown (mvT hZ (own_w hw 69 rfl)) (mvT hZ (own_w hw 70 rfl)) (own_selp hZ (y := (⟨"com/example/etsinta/etsinta/search/Best", "worse", "(IDID)Z"⟩ : MethodName)) (own_w hw 4 rfl) (own_w hw 71 rfl) (own_w hw 70 rfl) (by decide)) (Cond.privateMethod_at (mvP hZ (own_w hw 71 rfl) (args := #[]))) (mvT hZ (own_w hw 72 rfl)) (by decide) (backOf (W := 0) (rm14 l Z a0 hw [] sv pl ob sa da pa (3 : Int32) fd fs fp d1 x T7.heap n0 sz7 ⟨f8, f9, f10, f11, f12, f13, f14, f15, f16⟩ hP t1.2.2 k_x) hZ (own_w hw 72 rfl) (own_w hw 5 rfl) (by decide) (by decide)) (g := (mkF m 94 #[.val (.ref ob), .val (.int x), .val (.double (FP.i2d (sv x))), .second, .val (.int 0), .val (.int 1)] [(.double (FP.i2d (sv x))), (.int x), (.double (FP.i2d (sv d1))), (.int d1), (.ref ob)])) rfl (by rw [hml]; rfl) (Steps.refl _) (a := ob) (by rw [e109]; exact q110) q110' (argsL := [(.int d1), (.double (FP.i2d (sv d1))), (.int x), (.double (FP.i2d (sv x)))]) (rest := []) (lenOf pd_0 rfl) rfl (by show 2 * 0 + _ ≤ _; exact Nat.le_of_eq rfl) (hb hby d15_94) (fun _ _ => ⟨rfl, e109, (by decide : 0 + 0 ≤ _), (by decide : 0 + 0 ≤ _)⟩)
    dsimp only [Pt.U, Pt.locs, Pt.cells, Pt.slots] at X110 l110 y110 z110 st110 hQ110
    subst l110 y110 z110
    refine own_by (fun _ K => st110.trans K) ?_
    obtain ⟨rfl, N110q, hh110⟩ := hQ110
    have N110 := Fr.app N7 N110q
    have f111 := f8
    rw [← hh110] at f111
    have f112 := f9
    rw [← hh110] at f112
    have f113 := f10
    rw [← hh110] at f113
    have f114 := f11
    rw [← hh110] at f114
    have f115 := f12
    rw [← hh110] at f115
    have f116 := f13
    rw [← hh110] at f116
    have f117 := f14
    rw [← hh110] at f117
    have f118 := f15
    rw [← hh110] at f118
    have f119 := f16
    rw [← hh110] at f119
    have f120 : Keep h0 T110.heap [sa, da] := by rw [hh110]; exact f17
    have sz110 : n0 ≤ T110.heap.size := by rw [hh110]; exact sz7
    show OwnG p e below s _ _ _ (T110.setTop (mkF m 97 _ [(.int (own_b (own_K sv pl d1 < own_K sv pl x)))]))
    by_cases hK121 : own_K sv pl d1 < own_K sv pl x
    · rw [own_bT hK121]
      show OwnG p e below s _ _ _ (T110.setTop (mkF m 97 #[.val (.ref ob), .val (.int x), .val (.double (FP.i2d (sv x))), .second, .val (.int 0), .val (.int 1)] [(.int 1)]))
      refine own_by (fun _ K => XS.ifYes X110.here hx rfl (pc0 := 97) (pc' := 103) rfl (hb hby d15_97) rfl ((if0 _ _).trans (feq (by decide)).2) (by decide) (by decide) K) ?_
      show OwnG p e below s _ _ _ (T110.setTop (mkF m 103 _ []))
      refine own_by (fun _ K => XS.aloadN X110.here hx rfl (hb hby d15_103) rfl rfl K) ?_
      show OwnG p e below s _ _ _ (T110.setTop (mkF m 104 _ [(.ref ob)]))
      obtain ⟨T122, X122, e122, st122⟩ := getF X110 hx hZ hown (host := "") (Or.inl (own_w hw 14 rfl)) Via.refl (rfl : T110.heap = T110.heap) f113 (g := (mkF m 104 #[.val (.ref ob), .val (.int x), .val (.double (FP.i2d (sv x))), .second, .val (.int 0), .val (.int 1)] [(.ref ob)])) rfl rfl (hb hby d15_104)
      refine own_by (fun _ K => st122 _ K) ?_
      show OwnG p e below s _ _ _ (T122.setTop (mkF m 107 _ [(.ref da)]))
      refine own_by (fun _ K => XS.iload X122.here hx rfl (hb hby d15_107) rfl K) ?_
      show OwnG p e below s _ _ _ (T122.setTop (mkF m 109 _ [(.int 0), (.ref da)]))
      refine own_by (fun _ K => XS.aloadN X122.here hx rfl (hb hby d15_109) rfl rfl K) ?_
      show OwnG p e below s _ _ _ (T122.setTop (mkF m 110 _ [(.ref ob), (.int 0), (.ref da)]))
      obtain ⟨T123, X123, e123, st123⟩ := getF X122 hx hZ hown (host := "") (Or.inl (own_w hw 14 rfl)) Via.refl e122 f113 (g := (mkF m 110 #[.val (.ref ob), .val (.int x), .val (.double (FP.i2d (sv x))), .second, .val (.int 0), .val (.int 1)] [(.ref ob), (.int 0), (.ref da)])) rfl rfl (hb hby d15_110)
      refine own_by (fun _ K => st123 _ K) ?_
      show OwnG p e below s _ _ _ (T123.setTop (mkF m 113 _ [(.ref da), (.int 0), (.ref da)]))
      refine own_by (fun _ K => XS.iload X123.here hx rfl (hb hby d15_113) rfl K) ?_
      show OwnG p e below s _ _ _ (T123.setTop (mkF m 115 _ [(.int 1), (.ref da), (.int 0), (.ref da)]))
      refine own_by (fun _ K => own_ldI X123 hx hZ e123 f117 (j := (1 : Int32)) (i := 1) ⟨by decide, rfl, by decide⟩ (v := (.int d1)) t1.1 (g := (mkF m 115 #[.val (.ref ob), .val (.int x), .val (.double (FP.i2d (sv x))), .second, .val (.int 0), .val (.int 1)] [(.int 1), (.ref da), (.int 0), (.ref da)])) rfl rfl (hb hby d15_115) _ K) ?_
      show OwnG p e below s _ _ _ (T123.setTop (mkF m 116 _ [(.int d1), (.int 0), (.ref da)]))
      obtain ⟨T124, h124, X124, e124, W124, A124, st124⟩ := own_stI X123 hx hZ e123 f117 (j := (0 : Int32)) (i := 0) ⟨by decide, rfl, by decide⟩ (g := (mkF m 116 #[.val (.ref ob), .val (.int x), .val (.double (FP.i2d (sv x))), .second, .val (.int 0), .val (.int 1)] [(.int d1), (.int 0), (.ref da)])) rfl rfl (hb hby d15_116)
      refine own_by (fun _ K => st124 _ K) ?_
      have f125 := Exa.wr W124 f111
      have f126 := Fld.other W124 f112 (Or.inl Nn.2.2.2.2.1)
      have f127 := Fld.other W124 f113 (Or.inl Nn.2.2.2.2.1)
      have f128 := Fld.other W124 f114 (Or.inl Nn.2.2.2.2.1)
      have f129 := Fld.other W124 f115 (Or.inl Nn.2.2.2.2.1)
      have f130 := Fld.other W124 f116 (Or.inl Nn.2.2.2.2.1)
      have f132 := OwnA.other W124 f118 Nn.2.2.2.2.2.2.1
      have f133 := OwnA.other W124 f119 (Ne.symm Nn.2.2.2.2.2.2.2.2)
      have f134 := Keep.wr f120 W124 (Or.inl (by simp))
      have N124 := Fr.snoc X124 N110 Nn.2.2.1
      have sz124 : n0 ≤ h124.size := by rw [W124.size]; exact sz110
      show OwnG p e below s _ _ _ (T124.setTop (mkF m 117 _ []))
      refine own_by (fun _ K => XS.aloadN X124.here hx rfl (hb hby d15_117) rfl rfl K) ?_
      show OwnG p e below s _ _ _ (T124.setTop (mkF m 118 _ [(.ref ob)]))
      obtain ⟨T135, X135, e135, st135⟩ := getF X124 hx hZ hown (host := "") (Or.inl (own_w hw 12 rfl)) Via.refl e124 f126 (g := (mkF m 118 #[.val (.ref ob), .val (.int x), .val (.double (FP.i2d (sv x))), .second, .val (.int 0), .val (.int 1)] [(.ref ob)])) rfl rfl (hb hby d15_118)
      refine own_by (fun _ K => st135 _ K) ?_
      show OwnG p e below s _ _ _ (T135.setTop (mkF m 121 _ [(.ref sa)]))
      refine own_by (fun _ K => XS.iload X135.here hx rfl (hb hby d15_121) rfl K) ?_
      show OwnG p e below s _ _ _ (T135.setTop (mkF m 123 _ [(.int 0), (.ref sa)]))
      refine own_by (fun _ K => XS.aloadN X135.here hx rfl (hb hby d15_123) rfl rfl K) ?_
      show OwnG p e below s _ _ _ (T135.setTop (mkF m 124 _ [(.ref ob), (.int 0), (.ref sa)]))
      obtain ⟨T136, X136, e136, st136⟩ := getF X135 hx hZ hown (host := "") (Or.inl (own_w hw 12 rfl)) Via.refl e135 f126 (g := (mkF m 124 #[.val (.ref ob), .val (.int x), .val (.double (FP.i2d (sv x))), .second, .val (.int 0), .val (.int 1)] [(.ref ob), (.int 0), (.ref sa)])) rfl rfl (hb hby d15_124)
      refine own_by (fun _ K => st136 _ K) ?_
      show OwnG p e below s _ _ _ (T136.setTop (mkF m 127 _ [(.ref sa), (.int 0), (.ref sa)]))
      refine own_by (fun _ K => XS.iload X136.here hx rfl (hb hby d15_127) rfl K) ?_
      show OwnG p e below s _ _ _ (T136.setTop (mkF m 129 _ [(.int 1), (.ref sa), (.int 0), (.ref sa)]))
      refine own_by (fun _ K => own_ldD X136 hx hZ e136 f132 (j := (1 : Int32)) (i := 1) ⟨by decide, rfl, by decide⟩ (v := (.double (FP.i2d (sv d1)))) t1.2.1 (g := (mkF m 129 #[.val (.ref ob), .val (.int x), .val (.double (FP.i2d (sv x))), .second, .val (.int 0), .val (.int 1)] [(.int 1), (.ref sa), (.int 0), (.ref sa)])) rfl rfl (hb hby d15_129) _ K) ?_
      show OwnG p e below s _ _ _ (T136.setTop (mkF m 130 _ [(.double (FP.i2d (sv d1))), (.int 0), (.ref sa)]))
      obtain ⟨T137, h137, X137, e137, W137, A137, st137⟩ := own_stD X136 hx hZ e136 f132 (j := (0 : Int32)) (i := 0) ⟨by decide, rfl, by decide⟩ (g := (mkF m 130 #[.val (.ref ob), .val (.int x), .val (.double (FP.i2d (sv x))), .second, .val (.int 0), .val (.int 1)] [(.double (FP.i2d (sv d1))), (.int 0), (.ref sa)])) rfl rfl (hb hby d15_130)
      refine own_by (fun _ K => st137 _ K) ?_
      have f138 := Exa.wr W137 f125
      have f139 := Fld.other W137 f126 (Or.inl Nn.2.2.2.1)
      have f140 := Fld.other W137 f127 (Or.inl Nn.2.2.2.1)
      have f141 := Fld.other W137 f128 (Or.inl Nn.2.2.2.1)
      have f142 := Fld.other W137 f129 (Or.inl Nn.2.2.2.1)
      have f143 := Fld.other W137 f130 (Or.inl Nn.2.2.2.1)
      have f144 := OwnA.other W137 A124 (Ne.symm Nn.2.2.2.2.2.2.1)
      have f146 := OwnA.other W137 f133 (Ne.symm Nn.2.2.2.2.2.2.2.1)
      have f147 := Keep.wr f134 W137 (Or.inl (by simp))
      have N137 := Fr.snoc X137 N124 Nn.2.1
      have sz137 : n0 ≤ h137.size := by rw [W137.size]; exact sz124
      show OwnG p e below s _ _ _ (T137.setTop (mkF m 131 _ []))
      refine own_by (fun _ K => XS.iload X137.here hx rfl (hb hby d15_131) rfl K) ?_
      show OwnG p e below s _ _ _ (T137.setTop (mkF m 133 _ [(.int 1)]))
      refine own_by (fun _ K => XS.istore X137.here hx rfl (hb hby d15_133) rfl (l' := #[.val (.ref ob), .val (.int x), .val (.double (FP.i2d (sv x))), .second, .val (.int 1), .val (.int 1)]) rfl K) ?_
      show OwnG p e below s _ _ _ (T137.setTop (mkF m 135 _ []))
      refine own_by (fun _ K => XS.goto X137.here hx rfl (pc0 := 135) (pc' := 3) rfl (hb hby d15_135) (by decide) (by decide) K) ?_
      show OwnG p e below s _ _ _ (T137.setTop (mkF m 3 _ []))
      refine own_by (fun _ K => XS.iconst X137.here hx rfl (hb hby d15_3) K) ?_
      show OwnG p e below s _ _ _ (T137.setTop (mkF m 4 _ [(.int 2)]))
      refine own_by (fun _ K => XS.iload X137.here hx rfl (hb hby d15_4) rfl K) ?_
      show OwnG p e below s _ _ _ (T137.setTop (mkF m 6 _ [(.int 1), (.int 2)]))
      refine own_by (fun _ K => XS.imul X137.here hx rfl (hb hby d15_6) rfl K) ?_
      show OwnG p e below s _ _ _ (T137.setTop (mkF m 7 _ [(.int 2)]))
      refine own_by (fun _ K => XS.iconst X137.here hx rfl (hb hby d15_7) K) ?_
      show OwnG p e below s _ _ _ (T137.setTop (mkF m 8 _ [(.int 1), (.int 2)]))
      refine own_by (fun _ K => XS.iadd X137.here hx rfl (hb hby d15_8) rfl K) ?_
      show OwnG p e below s _ _ _ (T137.setTop (mkF m 9 _ [(.int 3)]))
      refine own_by (fun _ K => XS.aloadN X137.here hx rfl (hb hby d15_9) rfl rfl K) ?_
      show OwnG p e below s _ _ _ (T137.setTop (mkF m 10 _ [(.ref ob), (.int 3)]))
      obtain ⟨T148, X148, e148, st148⟩ := getF X137 hx hZ hown (host := "") (Or.inl (own_w hw 25 rfl)) Via.refl e137 f143 (g := (mkF m 10 #[.val (.ref ob), .val (.int x), .val (.double (FP.i2d (sv x))), .second, .val (.int 1), .val (.int 1)] [(.ref ob), (.int 3)])) rfl rfl (hb hby d15_10)
      refine own_by (fun _ K => st148 _ K) ?_
      show OwnG p e below s _ _ _ (T148.setTop (mkF m 13 _ [(.int 3), (.int 3)]))
      refine own_by (fun _ K => XS.icmpYes X148.here hx rfl (pc0 := 13) (pc' := 138) rfl (hb hby d15_13) rfl (flt (by decide)).2.1 (by decide) (by decide) K) ?_
      show OwnG p e below s _ _ _ (T148.setTop (mkF m 138 _ []))
      refine own_by (fun _ K => XS.aloadN X148.here hx rfl (hb hby d15_138) rfl rfl K) ?_
      show OwnG p e below s _ _ _ (T148.setTop (mkF m 139 _ [(.ref ob)]))
      obtain ⟨T149, X149, e149, st149⟩ := getF X148 hx hZ hown (host := "") (Or.inl (own_w hw 14 rfl)) Via.refl e148 f140 (g := (mkF m 139 #[.val (.ref ob), .val (.int x), .val (.double (FP.i2d (sv x))), .second, .val (.int 1), .val (.int 1)] [(.ref ob)])) rfl rfl (hb hby d15_139)
      refine own_by (fun _ K => st149 _ K) ?_
      show OwnG p e below s _ _ _ (T149.setTop (mkF m 142 _ [(.ref da)]))
      refine own_by (fun _ K => XS.iload X149.here hx rfl (hb hby d15_142) rfl K) ?_
      show OwnG p e below s _ _ _ (T149.setTop (mkF m 144 _ [(.int 1), (.ref da)]))
      refine own_by (fun _ K => XS.iloadN X149.here hx rfl (hb hby d15_144) rfl K) ?_
      show OwnG p e below s _ _ _ (T149.setTop (mkF m 145 _ [(.int x), (.int 1), (.ref da)]))
      obtain ⟨T150, h150, X150, e150, W150, A150, st150⟩ := own_stI X149 hx hZ e149 f144 (j := (1 : Int32)) (i := 1) ⟨by decide, rfl, by decide⟩ (g := (mkF m 145 #[.val (.ref ob), .val (.int x), .val (.double (FP.i2d (sv x))), .second, .val (.int 1), .val (.int 1)] [(.int x), (.int 1), (.ref da)])) rfl rfl (hb hby d15_145)
      refine own_by (fun _ K => st150 _ K) ?_
      have f151 := Exa.wr W150 f138
      have f152 := Fld.other W150 f139 (Or.inl Nn.2.2.2.2.1)
      have f153 := Fld.other W150 f140 (Or.inl Nn.2.2.2.2.1)
      have f154 := Fld.other W150 f141 (Or.inl Nn.2.2.2.2.1)
      have f155 := Fld.other W150 f142 (Or.inl Nn.2.2.2.2.1)
      have f156 := Fld.other W150 f143 (Or.inl Nn.2.2.2.2.1)
      have f158 := OwnA.other W150 A137 Nn.2.2.2.2.2.2.1
      have f159 := OwnA.other W150 f146 (Ne.symm Nn.2.2.2.2.2.2.2.2)
      have f160 := Keep.wr f147 W150 (Or.inl (by simp))
      have N150 := Fr.snoc X150 N137 Nn.2.2.1
      have sz150 : n0 ≤ h150.size := by rw [W150.size]; exact sz137
      show OwnG p e below s _ _ _ (T150.setTop (mkF m 146 _ []))
      refine own_by (fun _ K => XS.aloadN X150.here hx rfl (hb hby d15_146) rfl rfl K) ?_
      show OwnG p e below s _ _ _ (T150.setTop (mkF m 147 _ [(.ref ob)]))
      obtain ⟨T161, X161, e161, st161⟩ := getF X150 hx hZ hown (host := "") (Or.inl (own_w hw 12 rfl)) Via.refl e150 f152 (g := (mkF m 147 #[.val (.ref ob), .val (.int x), .val (.double (FP.i2d (sv x))), .second, .val (.int 1), .val (.int 1)] [(.ref ob)])) rfl rfl (hb hby d15_147)
      refine own_by (fun _ K => st161 _ K) ?_
      show OwnG p e below s _ _ _ (T161.setTop (mkF m 150 _ [(.ref sa)]))
      refine own_by (fun _ K => XS.iload X161.here hx rfl (hb hby d15_150) rfl K) ?_
      show OwnG p e below s _ _ _ (T161.setTop (mkF m 152 _ [(.int 1), (.ref sa)]))
      refine own_by (fun _ K => XS.dloadN X161.here hx rfl (hb hby d15_152) rfl K) ?_
      show OwnG p e below s _ _ _ (T161.setTop (mkF m 153 _ [(.double (FP.i2d (sv x))), (.int 1), (.ref sa)]))
      obtain ⟨T162, h162, X162, e162, W162, A162, st162⟩ := own_stD X161 hx hZ e161 f158 (j := (1 : Int32)) (i := 1) ⟨by decide, rfl, by decide⟩ (g := (mkF m 153 #[.val (.ref ob), .val (.int x), .val (.double (FP.i2d (sv x))), .second, .val (.int 1), .val (.int 1)] [(.double (FP.i2d (sv x))), (.int 1), (.ref sa)])) rfl rfl (hb hby d15_153)
      refine own_by (fun _ K => st162 _ K) ?_
      have f163 := Exa.wr W162 f151
      have f164 := Fld.other W162 f152 (Or.inl Nn.2.2.2.1)
      have f165 := Fld.other W162 f153 (Or.inl Nn.2.2.2.1)
      have f166 := Fld.other W162 f154 (Or.inl Nn.2.2.2.1)
      have f167 := Fld.other W162 f155 (Or.inl Nn.2.2.2.1)
      have f168 := Fld.other W162 f156 (Or.inl Nn.2.2.2.1)
      have f169 := OwnA.other W162 A150 (Ne.symm Nn.2.2.2.2.2.2.1)
      have f171 := OwnA.other W162 f159 (Ne.symm Nn.2.2.2.2.2.2.2.1)
      have f172 := Keep.wr f160 W162 (Or.inl (by simp))
      have N162 := Fr.snoc X162 N150 Nn.2.1
      have sz162 : n0 ≤ h162.size := by rw [W162.size]; exact sz150
      show OwnG p e below s _ _ _ (T162.setTop (mkF m 154 _ []))
      exact own_outV X162 hx hret hlk (hb hby d15_154) (by show _ ∧ _; rw [e162]; exact ⟨rfl, N162, f172, _, _, d1, x, d2, ⟨f163, f164, f165, f166, f167, f168, f169, A162, f171⟩, ⟨rfl, rfl, t1.2.2⟩, ⟨rfl, rfl, k_x⟩, ⟨t2.1, t2.2.1, t2.2.2⟩, (by unfold own_D3; rw [if_neg hK18, if_pos hK121]; exact ⟨rfl, rfl, rfl⟩), fun i hi => ⟨by repeat rw [own_sn (by omega)], by repeat rw [own_sn (by omega)]⟩⟩) (by decide) (by decide)
    · rw [own_bF hK121]
      show OwnG p e below s _ _ _ (T110.setTop (mkF m 97 #[.val (.ref ob), .val (.int x), .val (.double (FP.i2d (sv x))), .second, .val (.int 0), .val (.int 1)] [(.int 0)]))
      refine own_by (fun _ K => XS.ifNo X110.here hx rfl (hb hby d15_97) rfl ((if0 _ _).trans (teq (by decide)).2) K) ?_
      show OwnG p e below s _ _ _ (T110.setTop (mkF m 100 _ []))
      refine own_by (fun _ K => XS.goto X110.here hx rfl (pc0 := 100) (pc' := 138) rfl (hb hby d15_100) (by decide) (by decide) K) ?_
      show OwnG p e below s _ _ _ (T110.setTop (mkF m 138 _ []))
      refine own_by (fun _ K => XS.aloadN X110.here hx rfl (hb hby d15_138) rfl rfl K) ?_
      show OwnG p e below s _ _ _ (T110.setTop (mkF m 139 _ [(.ref ob)]))
      obtain ⟨T173, X173, e173, st173⟩ := getF X110 hx hZ hown (host := "") (Or.inl (own_w hw 14 rfl)) Via.refl (rfl : T110.heap = T110.heap) f113 (g := (mkF m 139 #[.val (.ref ob), .val (.int x), .val (.double (FP.i2d (sv x))), .second, .val (.int 0), .val (.int 1)] [(.ref ob)])) rfl rfl (hb hby d15_139)
      refine own_by (fun _ K => st173 _ K) ?_
      show OwnG p e below s _ _ _ (T173.setTop (mkF m 142 _ [(.ref da)]))
      refine own_by (fun _ K => XS.iload X173.here hx rfl (hb hby d15_142) rfl K) ?_
      show OwnG p e below s _ _ _ (T173.setTop (mkF m 144 _ [(.int 0), (.ref da)]))
      refine own_by (fun _ K => XS.iloadN X173.here hx rfl (hb hby d15_144) rfl K) ?_
      show OwnG p e below s _ _ _ (T173.setTop (mkF m 145 _ [(.int x), (.int 0), (.ref da)]))
      obtain ⟨T174, h174, X174, e174, W174, A174, st174⟩ := own_stI X173 hx hZ e173 f117 (j := (0 : Int32)) (i := 0) ⟨by decide, rfl, by decide⟩ (g := (mkF m 145 #[.val (.ref ob), .val (.int x), .val (.double (FP.i2d (sv x))), .second, .val (.int 0), .val (.int 1)] [(.int x), (.int 0), (.ref da)])) rfl rfl (hb hby d15_145)
      refine own_by (fun _ K => st174 _ K) ?_
      have f175 := Exa.wr W174 f111
      have f176 := Fld.other W174 f112 (Or.inl Nn.2.2.2.2.1)
      have f177 := Fld.other W174 f113 (Or.inl Nn.2.2.2.2.1)
      have f178 := Fld.other W174 f114 (Or.inl Nn.2.2.2.2.1)
      have f179 := Fld.other W174 f115 (Or.inl Nn.2.2.2.2.1)
      have f180 := Fld.other W174 f116 (Or.inl Nn.2.2.2.2.1)
      have f182 := OwnA.other W174 f118 Nn.2.2.2.2.2.2.1
      have f183 := OwnA.other W174 f119 (Ne.symm Nn.2.2.2.2.2.2.2.2)
      have f184 := Keep.wr f120 W174 (Or.inl (by simp))
      have N174 := Fr.snoc X174 N110 Nn.2.2.1
      have sz174 : n0 ≤ h174.size := by rw [W174.size]; exact sz110
      show OwnG p e below s _ _ _ (T174.setTop (mkF m 146 _ []))
      refine own_by (fun _ K => XS.aloadN X174.here hx rfl (hb hby d15_146) rfl rfl K) ?_
      show OwnG p e below s _ _ _ (T174.setTop (mkF m 147 _ [(.ref ob)]))
      obtain ⟨T185, X185, e185, st185⟩ := getF X174 hx hZ hown (host := "") (Or.inl (own_w hw 12 rfl)) Via.refl e174 f176 (g := (mkF m 147 #[.val (.ref ob), .val (.int x), .val (.double (FP.i2d (sv x))), .second, .val (.int 0), .val (.int 1)] [(.ref ob)])) rfl rfl (hb hby d15_147)
      refine own_by (fun _ K => st185 _ K) ?_
      show OwnG p e below s _ _ _ (T185.setTop (mkF m 150 _ [(.ref sa)]))
      refine own_by (fun _ K => XS.iload X185.here hx rfl (hb hby d15_150) rfl K) ?_
      show OwnG p e below s _ _ _ (T185.setTop (mkF m 152 _ [(.int 0), (.ref sa)]))
      refine own_by (fun _ K => XS.dloadN X185.here hx rfl (hb hby d15_152) rfl K) ?_
      show OwnG p e below s _ _ _ (T185.setTop (mkF m 153 _ [(.double (FP.i2d (sv x))), (.int 0), (.ref sa)]))
      obtain ⟨T186, h186, X186, e186, W186, A186, st186⟩ := own_stD X185 hx hZ e185 f182 (j := (0 : Int32)) (i := 0) ⟨by decide, rfl, by decide⟩ (g := (mkF m 153 #[.val (.ref ob), .val (.int x), .val (.double (FP.i2d (sv x))), .second, .val (.int 0), .val (.int 1)] [(.double (FP.i2d (sv x))), (.int 0), (.ref sa)])) rfl rfl (hb hby d15_153)
      refine own_by (fun _ K => st186 _ K) ?_
      have f187 := Exa.wr W186 f175
      have f188 := Fld.other W186 f176 (Or.inl Nn.2.2.2.1)
      have f189 := Fld.other W186 f177 (Or.inl Nn.2.2.2.1)
      have f190 := Fld.other W186 f178 (Or.inl Nn.2.2.2.1)
      have f191 := Fld.other W186 f179 (Or.inl Nn.2.2.2.1)
      have f192 := Fld.other W186 f180 (Or.inl Nn.2.2.2.1)
      have f193 := OwnA.other W186 A174 (Ne.symm Nn.2.2.2.2.2.2.1)
      have f195 := OwnA.other W186 f183 (Ne.symm Nn.2.2.2.2.2.2.2.1)
      have f196 := Keep.wr f184 W186 (Or.inl (by simp))
      have N186 := Fr.snoc X186 N174 Nn.2.1
      have sz186 : n0 ≤ h186.size := by rw [W186.size]; exact sz174
      show OwnG p e below s _ _ _ (T186.setTop (mkF m 154 _ []))
      exact own_outV X186 hx hret hlk (hb hby d15_154) (by show _ ∧ _; rw [e186]; exact ⟨rfl, N186, f196, _, _, x, d1, d2, ⟨f187, f188, f189, f190, f191, f192, f193, A186, f195⟩, ⟨rfl, rfl, k_x⟩, ⟨t1.1, t1.2.1, t1.2.2⟩, ⟨t2.1, t2.2.1, t2.2.2⟩, (by unfold own_D3; rw [if_neg hK18, if_neg hK121]; exact ⟨rfl, rfl, rfl⟩), fun i hi => ⟨by repeat rw [own_sn (by omega)], by repeat rw [own_sn (by omega)]⟩⟩) (by decide) (by decide)
theorem d3_0 : decode prog_26_method_5_code 0 = .ok (.aload_n 0, 1) := by decide +kernel
theorem d3_1 : decode prog_26_method_5_code 1 = .ok (.getfield 74, 3) := by decide +kernel
theorem d3_4 : decode prog_26_method_5_code 4 = .ok (.istore_n 1, 1) := by decide +kernel
theorem d3_5 : decode prog_26_method_5_code 5 = .ok (.iload_n 1, 1) := by decide +kernel
theorem d3_6 : decode prog_26_method_5_code 6 = .ok (.iconst 1, 1) := by decide +kernel
theorem d3_7 : decode prog_26_method_5_code 7 = .ok (.isub, 1) := by decide +kernel
theorem d3_8 : decode prog_26_method_5_code 8 = .ok (.istore_n 2, 1) := by decide +kernel
theorem d3_9 : decode prog_26_method_5_code 9 = .ok (.iload_n 2, 1) := by decide +kernel
theorem d3_10 : decode prog_26_method_5_code 10 = .ok (.ifCond .le 60, 3) := by decide +kernel
theorem d3_13 : decode prog_26_method_5_code 13 = .ok (.aload_n 0, 1) := by decide +kernel
theorem d3_14 : decode prog_26_method_5_code 14 = .ok (.getfield 13, 3) := by decide +kernel
theorem d3_17 : decode prog_26_method_5_code 17 = .ok (.iconst 0, 1) := by decide +kernel
theorem d3_18 : decode prog_26_method_5_code 18 = .ok (.iaload, 1) := by decide +kernel
theorem d3_19 : decode prog_26_method_5_code 19 = .ok (.istore_n 3, 1) := by decide +kernel
theorem d3_20 : decode prog_26_method_5_code 20 = .ok (.aload_n 0, 1) := by decide +kernel
theorem d3_21 : decode prog_26_method_5_code 21 = .ok (.getfield 7, 3) := by decide +kernel
theorem d3_24 : decode prog_26_method_5_code 24 = .ok (.iconst 0, 1) := by decide +kernel
theorem d3_25 : decode prog_26_method_5_code 25 = .ok (.daload, 1) := by decide +kernel
theorem d3_26 : decode prog_26_method_5_code 26 = .ok (.dstore 4, 2) := by decide +kernel
theorem d3_28 : decode prog_26_method_5_code 28 = .ok (.aload_n 0, 1) := by decide +kernel
theorem d3_29 : decode prog_26_method_5_code 29 = .ok (.iload_n 2, 1) := by decide +kernel
theorem d3_30 : decode prog_26_method_5_code 30 = .ok (.putfield 74, 3) := by decide +kernel
theorem d3_33 : decode prog_26_method_5_code 33 = .ok (.aload_n 0, 1) := by decide +kernel
theorem d3_34 : decode prog_26_method_5_code 34 = .ok (.aload_n 0, 1) := by decide +kernel
theorem d3_35 : decode prog_26_method_5_code 35 = .ok (.getfield 13, 3) := by decide +kernel
theorem d3_38 : decode prog_26_method_5_code 38 = .ok (.iload_n 2, 1) := by decide +kernel
theorem d3_39 : decode prog_26_method_5_code 39 = .ok (.iaload, 1) := by decide +kernel
theorem d3_40 : decode prog_26_method_5_code 40 = .ok (.aload_n 0, 1) := by decide +kernel
theorem d3_41 : decode prog_26_method_5_code 41 = .ok (.getfield 7, 3) := by decide +kernel
theorem d3_44 : decode prog_26_method_5_code 44 = .ok (.iload_n 2, 1) := by decide +kernel
theorem d3_45 : decode prog_26_method_5_code 45 = .ok (.daload, 1) := by decide +kernel
theorem d3_46 : decode prog_26_method_5_code 46 = .ok (.invokevirtual 102, 3) := by decide +kernel
theorem d3_49 : decode prog_26_method_5_code 49 = .ok (.aload_n 0, 1) := by decide +kernel
theorem d3_50 : decode prog_26_method_5_code 50 = .ok (.getfield 13, 3) := by decide +kernel
theorem d3_53 : decode prog_26_method_5_code 53 = .ok (.iload_n 2, 1) := by decide +kernel
theorem d3_54 : decode prog_26_method_5_code 54 = .ok (.iload_n 3, 1) := by decide +kernel
theorem d3_55 : decode prog_26_method_5_code 55 = .ok (.iastore, 1) := by decide +kernel
theorem d3_56 : decode prog_26_method_5_code 56 = .ok (.aload_n 0, 1) := by decide +kernel
theorem d3_57 : decode prog_26_method_5_code 57 = .ok (.getfield 7, 3) := by decide +kernel
theorem d3_60 : decode prog_26_method_5_code 60 = .ok (.iload_n 2, 1) := by decide +kernel
theorem d3_61 : decode prog_26_method_5_code 61 = .ok (.dload 4, 2) := by decide +kernel
theorem d3_63 : decode prog_26_method_5_code 63 = .ok (.dastore, 1) := by decide +kernel
theorem d3_64 : decode prog_26_method_5_code 64 = .ok (.iinc 2 (-1), 3) := by decide +kernel
theorem d3_67 : decode prog_26_method_5_code 67 = .ok (.goto (-58), 3) := by decide +kernel
theorem d3_70 : decode prog_26_method_5_code 70 = .ok (.aload_n 0, 1) := by decide +kernel
theorem d3_71 : decode prog_26_method_5_code 71 = .ok (.iload_n 1, 1) := by decide +kernel
theorem d3_72 : decode prog_26_method_5_code 72 = .ok (.putfield 74, 3) := by decide +kernel
theorem d3_75 : decode prog_26_method_5_code 75 = .ok (.return_, 1) := by decide +kernel
theorem ef_3k0 (m : MethodId) (x0 : Addr) : entryFrame m #[(.ref x0)] 6 = mkF m 0 #[.val (.ref x0), .unset, .unset, .unset, .unset, .unset] [] := by first | (simp [entryFrame, mkF, argsToLocals, Value.category]; done) | rfl
def Q3k0 (Z : State) (sv pl : Int32 → Int32) (ob sa da pa : Addr) (fd fs fp : Nat → Value) (h0 : Heap) (n0 : Nat) (v : Option Value) (h : Heap) (L : List Loc) : Prop := v = none ∧ Fr n0 L ∧ Keep h0 h [ob, sa, da] ∧ ∃ fd' fs', own_S Z h ob sa da pa (0 : Int32) fd' fs' fp
set_option maxRecDepth 65536 in
set_option maxHeartbeats 40000000 in
theorem rm3k0 (l : Launch) (Z : State) (a0 : Array Value) (hw : ∀ d ∈ tables_1, d.before a0 Z = true) (ws : List Jvm.Cond) (sv pl : Int32 → Int32) (ob sa da pa : Addr) (fd fs fp : Nat → Value) (h0 : Heap) (n0 : Nat) (Z0 : n0 ≤ h0.size) (Sb : own_S Z h0 ob sa da pa (0 : Int32) fd fs fp) (Nn : own_N n0 ob sa da pa) (hP : own_P pl fp) :
    MetFree l (⟨"com/example/etsinta/etsinta/search/Best", "rank", "()V"⟩ : MethodName) (head1 (Jvm.Cond.code (⟨"com/example/etsinta/etsinta/search/Best", "rank", "()V"⟩ : MethodName) prog_26_method_5_code 6 none :: ws) ({ frames := 2, cells := 0, slots := 0, locals := 35 } : Room)) (fun aa_ U => aa_ = #[(.ref ob)] ∧ Z.Warmed39 U.vm ∧ U.heap = h0) (fun _ _ _ _ _ => True) (fun _ U o U' => ∃ v L, o = .returned v ∧ Q3k0 Z sv pl ob sa da pa fd fs fp h0 n0 v U'.heap L ∧ FrameEnd U o U' L ({ frames := 2, cells := 0, slots := 0, locals := 35 } : Room).cells ({ frames := 2, cells := 0, slots := 0, locals := 35 } : Room).slots) := by
  refine own_met (Q := fun v h L => Q3k0 Z sv pl ob sa da pa fd fs fp h0 n0 v h L) (plainFor_of_name pn_0) ?_
  intro p e s m below meth c s₁ hx hby hml hret hlk hown hnm hZ X0 e0
  have N0 := Fr.nil n0
  rw [ef_3k0 m ob]
  show OwnG p e below s _ _ _ (s₁.setTop (mkF m 0 #[.val (.ref ob), .unset, .unset, .unset, .unset, .unset] []))
  refine own_by (fun _ K => XS.aloadN X0.here hx rfl (hb hby d3_0) rfl rfl K) ?_
  show OwnG p e below s _ _ _ (s₁.setTop (mkF m 1 _ [(.ref ob)]))
  obtain ⟨T1, X1, e1, st1⟩ := getF X0 hx hZ hown (host := "") (Or.inl (own_w hw 25 rfl)) Via.refl e0 Sb.2.2.2.2.2.1 (g := (mkF m 1 #[.val (.ref ob), .unset, .unset, .unset, .unset, .unset] [(.ref ob)])) rfl rfl (hb hby d3_1)
  refine own_by (fun _ K => st1 _ K) ?_
  show OwnG p e below s _ _ _ (T1.setTop (mkF m 4 _ [(.int 0)]))
  refine own_by (fun _ K => XS.istoreN X1.here hx rfl (hb hby d3_4) rfl (l' := #[.val (.ref ob), .val (.int 0), .unset, .unset, .unset, .unset]) rfl K) ?_
  show OwnG p e below s _ _ _ (T1.setTop (mkF m 5 _ []))
  refine own_by (fun _ K => XS.iloadN X1.here hx rfl (hb hby d3_5) rfl K) ?_
  show OwnG p e below s _ _ _ (T1.setTop (mkF m 6 _ [(.int 0)]))
  refine own_by (fun _ K => XS.iconst X1.here hx rfl (hb hby d3_6) K) ?_
  show OwnG p e below s _ _ _ (T1.setTop (mkF m 7 _ [(.int 1), (.int 0)]))
  refine own_by (fun _ K => XS.isub X1.here hx rfl (hb hby d3_7) rfl K) ?_
  show OwnG p e below s _ _ _ (T1.setTop (mkF m 8 _ [(.int (-1 : Int32))]))
  refine own_by (fun _ K => XS.istoreN X1.here hx rfl (hb hby d3_8) rfl (l' := #[.val (.ref ob), .val (.int 0), .val (.int (-1 : Int32)), .unset, .unset, .unset]) rfl K) ?_
  show OwnG p e below s _ _ _ (T1.setTop (mkF m 9 _ []))
  refine own_by (fun _ K => XS.iloadN X1.here hx rfl (hb hby d3_9) rfl K) ?_
  show OwnG p e below s _ _ _ (T1.setTop (mkF m 10 _ [(.int (-1 : Int32))]))
  refine own_by (fun _ K => XS.ifYes X1.here hx rfl (pc0 := 10) (pc' := 70) rfl (hb hby d3_10) rfl ((if0 _ _).trans (flt (by decide)).2.2.2) (by decide) (by decide) K) ?_
  show OwnG p e below s _ _ _ (T1.setTop (mkF m 70 _ []))
  refine own_by (fun _ K => XS.aloadN X1.here hx rfl (hb hby d3_70) rfl rfl K) ?_
  show OwnG p e below s _ _ _ (T1.setTop (mkF m 71 _ [(.ref ob)]))
  refine own_by (fun _ K => XS.iloadN X1.here hx rfl (hb hby d3_71) rfl K) ?_
  show OwnG p e below s _ _ _ (T1.setTop (mkF m 72 _ [(.int 0), (.ref ob)]))
  obtain ⟨T2, h2, X2, e2, W2, st2⟩ := putF X1 hx hZ hown (host := "") (Or.inl (own_w hw 25 rfl)) Via.refl e1 Sb.2.2.2.2.2.1 Sb.1 (Or.inl (own_w hw 26 rfl)) (own_w hw 4 rfl) (ty := .int) (by decide) rfl rfl (g := (mkF m 72 #[.val (.ref ob), .val (.int 0), .val (.int (-1 : Int32)), .unset, .unset, .unset] [(.int 0), (.ref ob)])) rfl rfl (hb hby d3_72)
  refine own_by (fun _ K => st2 _ K) ?_
  have f3 := Exa.wr W2 Sb.1
  have f4 := Fld.other W2 Sb.2.1 (Or.inr (slot_ne (Or.inl (own_w hw 13 rfl)) (Or.inl (own_w hw 26 rfl)) (by decide) (t := (.array .double)) (t' := .int) (by decide) (by decide)))
  have f5 := Fld.other W2 Sb.2.2.1 (Or.inr (slot_ne (Or.inl (own_w hw 15 rfl)) (Or.inl (own_w hw 26 rfl)) (by decide) (t := (.array .int)) (t' := .int) (by decide) (by decide)))
  have f6 := Fld.other W2 Sb.2.2.2.1 (Or.inr (slot_ne (Or.inr (own_w hw 17 rfl)) (Or.inl (own_w hw 26 rfl)) (by decide) (t := .int) (t' := .int) (by decide) (by decide)))
  have f7 := Fld.other W2 Sb.2.2.2.2.1 (Or.inr (slot_ne (Or.inr (own_w hw 19 rfl)) (Or.inl (own_w hw 26 rfl)) (by decide) (t := (.array .int)) (t' := .int) (by decide) (by decide)))
  have f9 := OwnA.other W2 Sb.2.2.2.2.2.2.1 (Ne.symm Nn.2.2.2.2.1)
  have f10 := OwnA.other W2 Sb.2.2.2.2.2.2.2.1 (Ne.symm Nn.2.2.2.1)
  have f11 := OwnA.other W2 Sb.2.2.2.2.2.2.2.2 (Ne.symm Nn.2.2.2.2.2.1)
  have f12 := Keep.wr (Keep.refl h0 [ob, sa, da]) W2 (Or.inl (by simp))
  have f13 := Fld.same W2 Sb.2.2.2.2.2.1
  have N2 := Fr.snoc X2 N0 Nn.1
  have sz2 : n0 ≤ h2.size := by rw [W2.size]; exact Z0
  show OwnG p e below s _ _ _ (T2.setTop (mkF m 75 _ []))
  exact own_outV X2 hx hret hlk (hb hby d3_75) (by show _ ∧ _; rw [e2]; exact ⟨rfl, N2, f12, _, _, ⟨f3, f4, f5, f6, f7, f13, f9, f10, f11⟩⟩) (by decide) (by decide)
theorem ef_3k1 (m : MethodId) (x0 : Addr) : entryFrame m #[(.ref x0)] 6 = mkF m 0 #[.val (.ref x0), .unset, .unset, .unset, .unset, .unset] [] := by first | (simp [entryFrame, mkF, argsToLocals, Value.category]; done) | rfl
def Q3k1 (Z : State) (sv pl : Int32 → Int32) (ob sa da pa : Addr) (fd fs fp : Nat → Value) (d0 : Int32) (h0 : Heap) (n0 : Nat) (v : Option Value) (h : Heap) (L : List Loc) : Prop := v = none ∧ Fr n0 L ∧ Keep h0 h [ob, sa, da] ∧ ∃ fd' fs', ∃ r0 : Int32, own_S Z h ob sa da pa (1 : Int32) fd' fs' fp ∧ own_at sv fd' fs' 0 r0 ∧ r0 = d0
set_option maxRecDepth 65536 in
set_option maxHeartbeats 40000000 in
theorem rm3k1 (l : Launch) (Z : State) (a0 : Array Value) (hw : ∀ d ∈ tables_1, d.before a0 Z = true) (ws : List Jvm.Cond) (sv pl : Int32 → Int32) (ob sa da pa : Addr) (fd fs fp : Nat → Value) (d0 : Int32) (h0 : Heap) (n0 : Nat) (Z0 : n0 ≤ h0.size) (Sb : own_S Z h0 ob sa da pa (1 : Int32) fd fs fp) (Nn : own_N n0 ob sa da pa) (hP : own_P pl fp) (t0 : own_at sv fd fs 0 d0) :
    MetFree l (⟨"com/example/etsinta/etsinta/search/Best", "rank", "()V"⟩ : MethodName) (head1 (Jvm.Cond.code (⟨"com/example/etsinta/etsinta/search/Best", "rank", "()V"⟩ : MethodName) prog_26_method_5_code 6 none :: ws) ({ frames := 2, cells := 0, slots := 0, locals := 35 } : Room)) (fun aa_ U => aa_ = #[(.ref ob)] ∧ Z.Warmed39 U.vm ∧ U.heap = h0) (fun _ _ _ _ _ => True) (fun _ U o U' => ∃ v L, o = .returned v ∧ Q3k1 Z sv pl ob sa da pa fd fs fp d0 h0 n0 v U'.heap L ∧ FrameEnd U o U' L ({ frames := 2, cells := 0, slots := 0, locals := 35 } : Room).cells ({ frames := 2, cells := 0, slots := 0, locals := 35 } : Room).slots) := by
  refine own_met (Q := fun v h L => Q3k1 Z sv pl ob sa da pa fd fs fp d0 h0 n0 v h L) (plainFor_of_name pn_0) ?_
  intro p e s m below meth c s₁ hx hby hml hret hlk hown hnm hZ X0 e0
  have N0 := Fr.nil n0
  rw [ef_3k1 m ob]
  show OwnG p e below s _ _ _ (s₁.setTop (mkF m 0 #[.val (.ref ob), .unset, .unset, .unset, .unset, .unset] []))
  refine own_by (fun _ K => XS.aloadN X0.here hx rfl (hb hby d3_0) rfl rfl K) ?_
  show OwnG p e below s _ _ _ (s₁.setTop (mkF m 1 _ [(.ref ob)]))
  obtain ⟨T1, X1, e1, st1⟩ := getF X0 hx hZ hown (host := "") (Or.inl (own_w hw 25 rfl)) Via.refl e0 Sb.2.2.2.2.2.1 (g := (mkF m 1 #[.val (.ref ob), .unset, .unset, .unset, .unset, .unset] [(.ref ob)])) rfl rfl (hb hby d3_1)
  refine own_by (fun _ K => st1 _ K) ?_
  show OwnG p e below s _ _ _ (T1.setTop (mkF m 4 _ [(.int 1)]))
  refine own_by (fun _ K => XS.istoreN X1.here hx rfl (hb hby d3_4) rfl (l' := #[.val (.ref ob), .val (.int 1), .unset, .unset, .unset, .unset]) rfl K) ?_
  show OwnG p e below s _ _ _ (T1.setTop (mkF m 5 _ []))
  refine own_by (fun _ K => XS.iloadN X1.here hx rfl (hb hby d3_5) rfl K) ?_
  show OwnG p e below s _ _ _ (T1.setTop (mkF m 6 _ [(.int 1)]))
  refine own_by (fun _ K => XS.iconst X1.here hx rfl (hb hby d3_6) K) ?_
  show OwnG p e below s _ _ _ (T1.setTop (mkF m 7 _ [(.int 1), (.int 1)]))
  refine own_by (fun _ K => XS.isub X1.here hx rfl (hb hby d3_7) rfl K) ?_
  show OwnG p e below s _ _ _ (T1.setTop (mkF m 8 _ [(.int 0)]))
  refine own_by (fun _ K => XS.istoreN X1.here hx rfl (hb hby d3_8) rfl (l' := #[.val (.ref ob), .val (.int 1), .val (.int 0), .unset, .unset, .unset]) rfl K) ?_
  show OwnG p e below s _ _ _ (T1.setTop (mkF m 9 _ []))
  refine own_by (fun _ K => XS.iloadN X1.here hx rfl (hb hby d3_9) rfl K) ?_
  show OwnG p e below s _ _ _ (T1.setTop (mkF m 10 _ [(.int 0)]))
  refine own_by (fun _ K => XS.ifYes X1.here hx rfl (pc0 := 10) (pc' := 70) rfl (hb hby d3_10) rfl ((if0 _ _).trans (flt (by decide)).2.2.2) (by decide) (by decide) K) ?_
  show OwnG p e below s _ _ _ (T1.setTop (mkF m 70 _ []))
  refine own_by (fun _ K => XS.aloadN X1.here hx rfl (hb hby d3_70) rfl rfl K) ?_
  show OwnG p e below s _ _ _ (T1.setTop (mkF m 71 _ [(.ref ob)]))
  refine own_by (fun _ K => XS.iloadN X1.here hx rfl (hb hby d3_71) rfl K) ?_
  show OwnG p e below s _ _ _ (T1.setTop (mkF m 72 _ [(.int 1), (.ref ob)]))
  obtain ⟨T2, h2, X2, e2, W2, st2⟩ := putF X1 hx hZ hown (host := "") (Or.inl (own_w hw 25 rfl)) Via.refl e1 Sb.2.2.2.2.2.1 Sb.1 (Or.inl (own_w hw 26 rfl)) (own_w hw 4 rfl) (ty := .int) (by decide) rfl rfl (g := (mkF m 72 #[.val (.ref ob), .val (.int 1), .val (.int 0), .unset, .unset, .unset] [(.int 1), (.ref ob)])) rfl rfl (hb hby d3_72)
  refine own_by (fun _ K => st2 _ K) ?_
  have f3 := Exa.wr W2 Sb.1
  have f4 := Fld.other W2 Sb.2.1 (Or.inr (slot_ne (Or.inl (own_w hw 13 rfl)) (Or.inl (own_w hw 26 rfl)) (by decide) (t := (.array .double)) (t' := .int) (by decide) (by decide)))
  have f5 := Fld.other W2 Sb.2.2.1 (Or.inr (slot_ne (Or.inl (own_w hw 15 rfl)) (Or.inl (own_w hw 26 rfl)) (by decide) (t := (.array .int)) (t' := .int) (by decide) (by decide)))
  have f6 := Fld.other W2 Sb.2.2.2.1 (Or.inr (slot_ne (Or.inr (own_w hw 17 rfl)) (Or.inl (own_w hw 26 rfl)) (by decide) (t := .int) (t' := .int) (by decide) (by decide)))
  have f7 := Fld.other W2 Sb.2.2.2.2.1 (Or.inr (slot_ne (Or.inr (own_w hw 19 rfl)) (Or.inl (own_w hw 26 rfl)) (by decide) (t := (.array .int)) (t' := .int) (by decide) (by decide)))
  have f9 := OwnA.other W2 Sb.2.2.2.2.2.2.1 (Ne.symm Nn.2.2.2.2.1)
  have f10 := OwnA.other W2 Sb.2.2.2.2.2.2.2.1 (Ne.symm Nn.2.2.2.1)
  have f11 := OwnA.other W2 Sb.2.2.2.2.2.2.2.2 (Ne.symm Nn.2.2.2.2.2.1)
  have f12 := Keep.wr (Keep.refl h0 [ob, sa, da]) W2 (Or.inl (by simp))
  have f13 := Fld.same W2 Sb.2.2.2.2.2.1
  have N2 := Fr.snoc X2 N0 Nn.1
  have sz2 : n0 ≤ h2.size := by rw [W2.size]; exact Z0
  show OwnG p e below s _ _ _ (T2.setTop (mkF m 75 _ []))
  exact own_outV X2 hx hret hlk (hb hby d3_75) (by show _ ∧ _; rw [e2]; exact ⟨rfl, N2, f12, _, _, d0, ⟨f3, f4, f5, f6, f7, f13, f9, f10, f11⟩, ⟨t0.1, t0.2.1, t0.2.2⟩, rfl⟩) (by decide) (by decide)
theorem ef_3k2 (m : MethodId) (x0 : Addr) : entryFrame m #[(.ref x0)] 6 = mkF m 0 #[.val (.ref x0), .unset, .unset, .unset, .unset, .unset] [] := by first | (simp [entryFrame, mkF, argsToLocals, Value.category]; done) | rfl
def Q3k2 (Z : State) (sv pl : Int32 → Int32) (ob sa da pa : Addr) (fd fs fp : Nat → Value) (d0 d1 : Int32) (h0 : Heap) (n0 : Nat) (v : Option Value) (h : Heap) (L : List Loc) : Prop := v = none ∧ Fr n0 L ∧ Keep h0 h [ob, sa, da] ∧ ∃ fd' fs', ∃ r0 r1 : Int32, own_S Z h ob sa da pa (2 : Int32) fd' fs' fp ∧ own_at sv fd' fs' 0 r0 ∧ own_at sv fd' fs' 1 r1 ∧ r0 = d1 ∧ r1 = d0
set_option maxRecDepth 65536 in
set_option maxHeartbeats 40000000 in
theorem rm3k2 (l : Launch) (Z : State) (a0 : Array Value) (hw : ∀ d ∈ tables_1, d.before a0 Z = true) (ws : List Jvm.Cond) (sv pl : Int32 → Int32) (ob sa da pa : Addr) (fd fs fp : Nat → Value) (d0 d1 : Int32) (h0 : Heap) (n0 : Nat) (Z0 : n0 ≤ h0.size) (Sb : own_S Z h0 ob sa da pa (2 : Int32) fd fs fp) (Nn : own_N n0 ob sa da pa) (hP : own_P pl fp) (t0 : own_at sv fd fs 0 d0) (t1 : own_at sv fd fs 1 d1) :
    MetFree l (⟨"com/example/etsinta/etsinta/search/Best", "rank", "()V"⟩ : MethodName) (head1 (Jvm.Cond.code (⟨"com/example/etsinta/etsinta/search/Best", "rank", "()V"⟩ : MethodName) prog_26_method_5_code 6 none :: ws) ({ frames := 2, cells := 0, slots := 0, locals := 35 } : Room)) (fun aa_ U => aa_ = #[(.ref ob)] ∧ Z.Warmed39 U.vm ∧ U.heap = h0) (fun _ _ _ _ _ => True) (fun _ U o U' => ∃ v L, o = .returned v ∧ Q3k2 Z sv pl ob sa da pa fd fs fp d0 d1 h0 n0 v U'.heap L ∧ FrameEnd U o U' L ({ frames := 2, cells := 0, slots := 0, locals := 35 } : Room).cells ({ frames := 2, cells := 0, slots := 0, locals := 35 } : Room).slots) := by
  refine own_met (Q := fun v h L => Q3k2 Z sv pl ob sa da pa fd fs fp d0 d1 h0 n0 v h L) (plainFor_of_name pn_0) ?_
  intro p e s m below meth c s₁ hx hby hml hret hlk hown hnm hZ X0 e0
  have N0 := Fr.nil n0
  rw [ef_3k2 m ob]
  show OwnG p e below s _ _ _ (s₁.setTop (mkF m 0 #[.val (.ref ob), .unset, .unset, .unset, .unset, .unset] []))
  refine own_by (fun _ K => XS.aloadN X0.here hx rfl (hb hby d3_0) rfl rfl K) ?_
  show OwnG p e below s _ _ _ (s₁.setTop (mkF m 1 _ [(.ref ob)]))
  obtain ⟨T1, X1, e1, st1⟩ := getF X0 hx hZ hown (host := "") (Or.inl (own_w hw 25 rfl)) Via.refl e0 Sb.2.2.2.2.2.1 (g := (mkF m 1 #[.val (.ref ob), .unset, .unset, .unset, .unset, .unset] [(.ref ob)])) rfl rfl (hb hby d3_1)
  refine own_by (fun _ K => st1 _ K) ?_
  show OwnG p e below s _ _ _ (T1.setTop (mkF m 4 _ [(.int 2)]))
  refine own_by (fun _ K => XS.istoreN X1.here hx rfl (hb hby d3_4) rfl (l' := #[.val (.ref ob), .val (.int 2), .unset, .unset, .unset, .unset]) rfl K) ?_
  show OwnG p e below s _ _ _ (T1.setTop (mkF m 5 _ []))
  refine own_by (fun _ K => XS.iloadN X1.here hx rfl (hb hby d3_5) rfl K) ?_
  show OwnG p e below s _ _ _ (T1.setTop (mkF m 6 _ [(.int 2)]))
  refine own_by (fun _ K => XS.iconst X1.here hx rfl (hb hby d3_6) K) ?_
  show OwnG p e below s _ _ _ (T1.setTop (mkF m 7 _ [(.int 1), (.int 2)]))
  refine own_by (fun _ K => XS.isub X1.here hx rfl (hb hby d3_7) rfl K) ?_
  show OwnG p e below s _ _ _ (T1.setTop (mkF m 8 _ [(.int 1)]))
  refine own_by (fun _ K => XS.istoreN X1.here hx rfl (hb hby d3_8) rfl (l' := #[.val (.ref ob), .val (.int 2), .val (.int 1), .unset, .unset, .unset]) rfl K) ?_
  show OwnG p e below s _ _ _ (T1.setTop (mkF m 9 _ []))
  refine own_by (fun _ K => XS.iloadN X1.here hx rfl (hb hby d3_9) rfl K) ?_
  show OwnG p e below s _ _ _ (T1.setTop (mkF m 10 _ [(.int 1)]))
  refine own_by (fun _ K => XS.ifNo X1.here hx rfl (hb hby d3_10) rfl ((if0 _ _).trans (tlt (by decide)).2.2.2) K) ?_
  show OwnG p e below s _ _ _ (T1.setTop (mkF m 13 _ []))
  refine own_by (fun _ K => XS.aloadN X1.here hx rfl (hb hby d3_13) rfl rfl K) ?_
  show OwnG p e below s _ _ _ (T1.setTop (mkF m 14 _ [(.ref ob)]))
  obtain ⟨T2, X2, e2, st2⟩ := getF X1 hx hZ hown (host := "") (Or.inl (own_w hw 14 rfl)) Via.refl e1 Sb.2.2.1 (g := (mkF m 14 #[.val (.ref ob), .val (.int 2), .val (.int 1), .unset, .unset, .unset] [(.ref ob)])) rfl rfl (hb hby d3_14)
  refine own_by (fun _ K => st2 _ K) ?_
  show OwnG p e below s _ _ _ (T2.setTop (mkF m 17 _ [(.ref da)]))
  refine own_by (fun _ K => XS.iconst X2.here hx rfl (hb hby d3_17) K) ?_
  show OwnG p e below s _ _ _ (T2.setTop (mkF m 18 _ [(.int 0), (.ref da)]))
  refine own_by (fun _ K => own_ldI X2 hx hZ e2 Sb.2.2.2.2.2.2.1 (j := (0 : Int32)) (i := 0) ⟨by decide, rfl, by decide⟩ (v := (.int d0)) t0.1 (g := (mkF m 18 #[.val (.ref ob), .val (.int 2), .val (.int 1), .unset, .unset, .unset] [(.int 0), (.ref da)])) rfl rfl (hb hby d3_18) _ K) ?_
  show OwnG p e below s _ _ _ (T2.setTop (mkF m 19 _ [(.int d0)]))
  refine own_by (fun _ K => XS.istoreN X2.here hx rfl (hb hby d3_19) rfl (l' := #[.val (.ref ob), .val (.int 2), .val (.int 1), .val (.int d0), .unset, .unset]) rfl K) ?_
  show OwnG p e below s _ _ _ (T2.setTop (mkF m 20 _ []))
  refine own_by (fun _ K => XS.aloadN X2.here hx rfl (hb hby d3_20) rfl rfl K) ?_
  show OwnG p e below s _ _ _ (T2.setTop (mkF m 21 _ [(.ref ob)]))
  obtain ⟨T3, X3, e3, st3⟩ := getF X2 hx hZ hown (host := "") (Or.inl (own_w hw 12 rfl)) Via.refl e2 Sb.2.1 (g := (mkF m 21 #[.val (.ref ob), .val (.int 2), .val (.int 1), .val (.int d0), .unset, .unset] [(.ref ob)])) rfl rfl (hb hby d3_21)
  refine own_by (fun _ K => st3 _ K) ?_
  show OwnG p e below s _ _ _ (T3.setTop (mkF m 24 _ [(.ref sa)]))
  refine own_by (fun _ K => XS.iconst X3.here hx rfl (hb hby d3_24) K) ?_
  show OwnG p e below s _ _ _ (T3.setTop (mkF m 25 _ [(.int 0), (.ref sa)]))
  refine own_by (fun _ K => own_ldD X3 hx hZ e3 Sb.2.2.2.2.2.2.2.1 (j := (0 : Int32)) (i := 0) ⟨by decide, rfl, by decide⟩ (v := (.double (FP.i2d (sv d0)))) t0.2.1 (g := (mkF m 25 #[.val (.ref ob), .val (.int 2), .val (.int 1), .val (.int d0), .unset, .unset] [(.int 0), (.ref sa)])) rfl rfl (hb hby d3_25) _ K) ?_
  show OwnG p e below s _ _ _ (T3.setTop (mkF m 26 _ [(.double (FP.i2d (sv d0)))]))
  refine own_by (fun _ K => XS.dstore X3.here hx rfl (hb hby d3_26) rfl (l' := #[.val (.ref ob), .val (.int 2), .val (.int 1), .val (.int d0), .val (.double (FP.i2d (sv d0))), .second]) rfl K) ?_
  show OwnG p e below s _ _ _ (T3.setTop (mkF m 28 _ []))
  refine own_by (fun _ K => XS.aloadN X3.here hx rfl (hb hby d3_28) rfl rfl K) ?_
  show OwnG p e below s _ _ _ (T3.setTop (mkF m 29 _ [(.ref ob)]))
  refine own_by (fun _ K => XS.iloadN X3.here hx rfl (hb hby d3_29) rfl K) ?_
  show OwnG p e below s _ _ _ (T3.setTop (mkF m 30 _ [(.int 1), (.ref ob)]))
  obtain ⟨T4, h4, X4, e4, W4, st4⟩ := putF X3 hx hZ hown (host := "") (Or.inl (own_w hw 25 rfl)) Via.refl e3 Sb.2.2.2.2.2.1 Sb.1 (Or.inl (own_w hw 26 rfl)) (own_w hw 4 rfl) (ty := .int) (by decide) rfl rfl (g := (mkF m 30 #[.val (.ref ob), .val (.int 2), .val (.int 1), .val (.int d0), .val (.double (FP.i2d (sv d0))), .second] [(.int 1), (.ref ob)])) rfl rfl (hb hby d3_30)
  refine own_by (fun _ K => st4 _ K) ?_
  have f5 := Exa.wr W4 Sb.1
  have f6 := Fld.other W4 Sb.2.1 (Or.inr (slot_ne (Or.inl (own_w hw 13 rfl)) (Or.inl (own_w hw 26 rfl)) (by decide) (t := (.array .double)) (t' := .int) (by decide) (by decide)))
  have f7 := Fld.other W4 Sb.2.2.1 (Or.inr (slot_ne (Or.inl (own_w hw 15 rfl)) (Or.inl (own_w hw 26 rfl)) (by decide) (t := (.array .int)) (t' := .int) (by decide) (by decide)))
  have f8 := Fld.other W4 Sb.2.2.2.1 (Or.inr (slot_ne (Or.inr (own_w hw 17 rfl)) (Or.inl (own_w hw 26 rfl)) (by decide) (t := .int) (t' := .int) (by decide) (by decide)))
  have f9 := Fld.other W4 Sb.2.2.2.2.1 (Or.inr (slot_ne (Or.inr (own_w hw 19 rfl)) (Or.inl (own_w hw 26 rfl)) (by decide) (t := (.array .int)) (t' := .int) (by decide) (by decide)))
  have f11 := OwnA.other W4 Sb.2.2.2.2.2.2.1 (Ne.symm Nn.2.2.2.2.1)
  have f12 := OwnA.other W4 Sb.2.2.2.2.2.2.2.1 (Ne.symm Nn.2.2.2.1)
  have f13 := OwnA.other W4 Sb.2.2.2.2.2.2.2.2 (Ne.symm Nn.2.2.2.2.2.1)
  have f14 := Keep.wr (Keep.refl h0 [ob, sa, da]) W4 (Or.inl (by simp))
  have f15 := Fld.same W4 Sb.2.2.2.2.2.1
  have N4 := Fr.snoc X4 N0 Nn.1
  have sz4 : n0 ≤ h4.size := by rw [W4.size]; exact Z0
  show OwnG p e below s _ _ _ (T4.setTop (mkF m 33 _ []))
  refine own_by (fun _ K => XS.aloadN X4.here hx rfl (hb hby d3_33) rfl rfl K) ?_
  show OwnG p e below s _ _ _ (T4.setTop (mkF m 34 _ [(.ref ob)]))
  refine own_by (fun _ K => XS.aloadN X4.here hx rfl (hb hby d3_34) rfl rfl K) ?_
  show OwnG p e below s _ _ _ (T4.setTop (mkF m 35 _ [(.ref ob), (.ref ob)]))
  obtain ⟨T16, X16, e16, st16⟩ := getF X4 hx hZ hown (host := "") (Or.inl (own_w hw 14 rfl)) Via.refl e4 f7 (g := (mkF m 35 #[.val (.ref ob), .val (.int 2), .val (.int 1), .val (.int d0), .val (.double (FP.i2d (sv d0))), .second] [(.ref ob), (.ref ob)])) rfl rfl (hb hby d3_35)
  refine own_by (fun _ K => st16 _ K) ?_
  show OwnG p e below s _ _ _ (T16.setTop (mkF m 38 _ [(.ref da), (.ref ob)]))
  refine own_by (fun _ K => XS.iloadN X16.here hx rfl (hb hby d3_38) rfl K) ?_
  show OwnG p e below s _ _ _ (T16.setTop (mkF m 39 _ [(.int 1), (.ref da), (.ref ob)]))
  refine own_by (fun _ K => own_ldI X16 hx hZ e16 f11 (j := (1 : Int32)) (i := 1) ⟨by decide, rfl, by decide⟩ (v := (.int d1)) t1.1 (g := (mkF m 39 #[.val (.ref ob), .val (.int 2), .val (.int 1), .val (.int d0), .val (.double (FP.i2d (sv d0))), .second] [(.int 1), (.ref da), (.ref ob)])) rfl rfl (hb hby d3_39) _ K) ?_
  show OwnG p e below s _ _ _ (T16.setTop (mkF m 40 _ [(.int d1), (.ref ob)]))
  refine own_by (fun _ K => XS.aloadN X16.here hx rfl (hb hby d3_40) rfl rfl K) ?_
  show OwnG p e below s _ _ _ (T16.setTop (mkF m 41 _ [(.ref ob), (.int d1), (.ref ob)]))
  obtain ⟨T17, X17, e17, st17⟩ := getF X16 hx hZ hown (host := "") (Or.inl (own_w hw 12 rfl)) Via.refl e16 f6 (g := (mkF m 41 #[.val (.ref ob), .val (.int 2), .val (.int 1), .val (.int d0), .val (.double (FP.i2d (sv d0))), .second] [(.ref ob), (.int d1), (.ref ob)])) rfl rfl (hb hby d3_41)
  refine own_by (fun _ K => st17 _ K) ?_
  show OwnG p e below s _ _ _ (T17.setTop (mkF m 44 _ [(.ref sa), (.int d1), (.ref ob)]))
  refine own_by (fun _ K => XS.iloadN X17.here hx rfl (hb hby d3_44) rfl K) ?_
  show OwnG p e below s _ _ _ (T17.setTop (mkF m 45 _ [(.int 1), (.ref sa), (.int d1), (.ref ob)]))
  refine own_by (fun _ K => own_ldD X17 hx hZ e17 f12 (j := (1 : Int32)) (i := 1) ⟨by decide, rfl, by decide⟩ (v := (.double (FP.i2d (sv d1)))) t1.2.1 (g := (mkF m 45 #[.val (.ref ob), .val (.int 2), .val (.int 1), .val (.int d0), .val (.double (FP.i2d (sv d0))), .second] [(.int 1), (.ref sa), (.int d1), (.ref ob)])) rfl rfl (hb hby d3_45) _ K) ?_
  show OwnG p e below s _ _ _ (T17.setTop (mkF m 46 _ [(.double (FP.i2d (sv d1))), (.int d1), (.ref ob)]))
  obtain ⟨cq18, q18, q18'⟩ := Exa.cell f5
  obtain ⟨_, _, ⟨T18, L18, k18, n18⟩, -, X18, ⟨Lc18, hQ18, l18, y18, z18⟩, st18⟩ := X17.privateBack hx (y := (⟨"com/example/etsinta/etsinta/search/Best", "siftDown", "(ID)V"⟩ : MethodName)) hown (mvT hZ (own_w hw 73 rfl)) (mvT hZ (own_w hw 74 rfl)) (own_selp hZ (y := (⟨"com/example/etsinta/etsinta/search/Best", "siftDown", "(ID)V"⟩ : MethodName)) (own_w hw 4 rfl) (own_w hw 75 rfl) (own_w hw 74 rfl) (by decide)) (Cond.privateMethod_at (mvP hZ (own_w hw 75 rfl) (args := #[]))) (mvT hZ (own_w hw 76 rfl)) (by decide) (backOf (W := 0) (rm15d1 l Z a0 hw [] sv pl ob sa da pa fd fs fp d1 h4 n0 sz4 ⟨f5, f6, f7, f8, f9, f15, f11, f12, f13⟩ Nn hP  t1.2.2) hZ (own_w hw 76 rfl) (own_w hw 5 rfl) (by decide) (by decide)) (g := (mkF m 46 #[.val (.ref ob), .val (.int 2), .val (.int 1), .val (.int d0), .val (.double (FP.i2d (sv d0))), .second] [(.double (FP.i2d (sv d1))), (.int d1), (.ref ob)])) rfl (by rw [hml]; rfl) (Steps.refl _) (a := ob) (by rw [e17]; exact q18) q18' (argsL := [(.int d1), (.double (FP.i2d (sv d1)))]) (rest := []) (lenOf pd_2 rfl) rfl (by show 2 * 0 + _ ≤ _; exact Nat.le_of_eq rfl) (hb hby d3_46) (fun _ _ => ⟨rfl, e17, (by decide : 0 + 0 ≤ _), (by decide : 0 + 0 ≤ _)⟩)
  dsimp only [Pt.U, Pt.locs, Pt.cells, Pt.slots] at X18 l18 y18 z18 st18 hQ18
  subst l18 y18 z18
  refine own_by (fun _ K => st18.trans K) ?_
  obtain ⟨rfl, N18q, K18, fd18, fs18, r18_0, S18, t18_0, hD18, hH18⟩ := hQ18
  have N18 := Fr.app N4 N18q
  have sz18 : n0 ≤ T18.heap.size := Nat.le_trans sz4 K18.1
  have f19 := Exa.keep f5 K18
  have f20 := Keep.trans f14 K18 (allS (Or.inl (by simp)) (allS (Or.inl (by simp)) all0))
  show OwnG p e below s _ _ _ (T18.setTop (mkF m 49 _ []))
  refine own_by (fun _ K => XS.aloadN X18.here hx rfl (hb hby d3_49) rfl rfl K) ?_
  show OwnG p e below s _ _ _ (T18.setTop (mkF m 50 _ [(.ref ob)]))
  obtain ⟨T21, X21, e21, st21⟩ := getF X18 hx hZ hown (host := "") (Or.inl (own_w hw 14 rfl)) Via.refl (rfl : T18.heap = T18.heap) S18.2.2.1 (g := (mkF m 50 #[.val (.ref ob), .val (.int 2), .val (.int 1), .val (.int d0), .val (.double (FP.i2d (sv d0))), .second] [(.ref ob)])) rfl rfl (hb hby d3_50)
  refine own_by (fun _ K => st21 _ K) ?_
  show OwnG p e below s _ _ _ (T21.setTop (mkF m 53 _ [(.ref da)]))
  refine own_by (fun _ K => XS.iloadN X21.here hx rfl (hb hby d3_53) rfl K) ?_
  show OwnG p e below s _ _ _ (T21.setTop (mkF m 54 _ [(.int 1), (.ref da)]))
  refine own_by (fun _ K => XS.iloadN X21.here hx rfl (hb hby d3_54) rfl K) ?_
  show OwnG p e below s _ _ _ (T21.setTop (mkF m 55 _ [(.int d0), (.int 1), (.ref da)]))
  obtain ⟨T22, h22, X22, e22, W22, A22, st22⟩ := own_stI X21 hx hZ e21 S18.2.2.2.2.2.2.1 (j := (1 : Int32)) (i := 1) ⟨by decide, rfl, by decide⟩ (g := (mkF m 55 #[.val (.ref ob), .val (.int 2), .val (.int 1), .val (.int d0), .val (.double (FP.i2d (sv d0))), .second] [(.int d0), (.int 1), (.ref da)])) rfl rfl (hb hby d3_55)
  refine own_by (fun _ K => st22 _ K) ?_
  have f23 := Exa.wr W22 S18.1
  have f24 := Keep.wr f20 W22 (Or.inl (by simp))
  have f25 := Fld.other W22 S18.2.1 (Or.inl Nn.2.2.2.2.1)
  have f26 := Fld.other W22 S18.2.2.1 (Or.inl Nn.2.2.2.2.1)
  have f27 := Fld.other W22 S18.2.2.2.1 (Or.inl Nn.2.2.2.2.1)
  have f28 := Fld.other W22 S18.2.2.2.2.1 (Or.inl Nn.2.2.2.2.1)
  have f29 := Fld.other W22 S18.2.2.2.2.2.1 (Or.inl Nn.2.2.2.2.1)
  have f31 := OwnA.other W22 S18.2.2.2.2.2.2.2.1 Nn.2.2.2.2.2.2.1
  have f32 := OwnA.other W22 S18.2.2.2.2.2.2.2.2 (Ne.symm Nn.2.2.2.2.2.2.2.2)
  have N22 := Fr.snoc X22 N18 Nn.2.2.1
  have sz22 : n0 ≤ h22.size := by rw [W22.size]; exact sz18
  show OwnG p e below s _ _ _ (T22.setTop (mkF m 56 _ []))
  refine own_by (fun _ K => XS.aloadN X22.here hx rfl (hb hby d3_56) rfl rfl K) ?_
  show OwnG p e below s _ _ _ (T22.setTop (mkF m 57 _ [(.ref ob)]))
  obtain ⟨T33, X33, e33, st33⟩ := getF X22 hx hZ hown (host := "") (Or.inl (own_w hw 12 rfl)) Via.refl e22 f25 (g := (mkF m 57 #[.val (.ref ob), .val (.int 2), .val (.int 1), .val (.int d0), .val (.double (FP.i2d (sv d0))), .second] [(.ref ob)])) rfl rfl (hb hby d3_57)
  refine own_by (fun _ K => st33 _ K) ?_
  show OwnG p e below s _ _ _ (T33.setTop (mkF m 60 _ [(.ref sa)]))
  refine own_by (fun _ K => XS.iloadN X33.here hx rfl (hb hby d3_60) rfl K) ?_
  show OwnG p e below s _ _ _ (T33.setTop (mkF m 61 _ [(.int 1), (.ref sa)]))
  refine own_by (fun _ K => XS.dload X33.here hx rfl (hb hby d3_61) rfl K) ?_
  show OwnG p e below s _ _ _ (T33.setTop (mkF m 63 _ [(.double (FP.i2d (sv d0))), (.int 1), (.ref sa)]))
  obtain ⟨T34, h34, X34, e34, W34, A34, st34⟩ := own_stD X33 hx hZ e33 f31 (j := (1 : Int32)) (i := 1) ⟨by decide, rfl, by decide⟩ (g := (mkF m 63 #[.val (.ref ob), .val (.int 2), .val (.int 1), .val (.int d0), .val (.double (FP.i2d (sv d0))), .second] [(.double (FP.i2d (sv d0))), (.int 1), (.ref sa)])) rfl rfl (hb hby d3_63)
  refine own_by (fun _ K => st34 _ K) ?_
  have f35 := Exa.wr W34 f23
  have f36 := Keep.wr f24 W34 (Or.inl (by simp))
  have f37 := Fld.other W34 f25 (Or.inl Nn.2.2.2.1)
  have f38 := Fld.other W34 f26 (Or.inl Nn.2.2.2.1)
  have f39 := Fld.other W34 f27 (Or.inl Nn.2.2.2.1)
  have f40 := Fld.other W34 f28 (Or.inl Nn.2.2.2.1)
  have f41 := Fld.other W34 f29 (Or.inl Nn.2.2.2.1)
  have f42 := OwnA.other W34 A22 (Ne.symm Nn.2.2.2.2.2.2.1)
  have f44 := OwnA.other W34 f32 (Ne.symm Nn.2.2.2.2.2.2.2.1)
  have N34 := Fr.snoc X34 N22 Nn.2.1
  have sz34 : n0 ≤ h34.size := by rw [W34.size]; exact sz22
  show OwnG p e below s _ _ _ (T34.setTop (mkF m 64 _ []))
  refine own_by (fun _ K => XS.iinc X34.here hx rfl (hb hby d3_64) rfl (l' := #[.val (.ref ob), .val (.int 2), .val (.int 0), .val (.int d0), .val (.double (FP.i2d (sv d0))), .second]) rfl K) ?_
  show OwnG p e below s _ _ _ (T34.setTop (mkF m 67 _ []))
  refine own_by (fun _ K => XS.goto X34.here hx rfl (pc0 := 67) (pc' := 9) rfl (hb hby d3_67) (by decide) (by decide) K) ?_
  show OwnG p e below s _ _ _ (T34.setTop (mkF m 9 _ []))
  refine own_by (fun _ K => XS.iloadN X34.here hx rfl (hb hby d3_9) rfl K) ?_
  show OwnG p e below s _ _ _ (T34.setTop (mkF m 10 _ [(.int 0)]))
  refine own_by (fun _ K => XS.ifYes X34.here hx rfl (pc0 := 10) (pc' := 70) rfl (hb hby d3_10) rfl ((if0 _ _).trans (flt (by decide)).2.2.2) (by decide) (by decide) K) ?_
  show OwnG p e below s _ _ _ (T34.setTop (mkF m 70 _ []))
  refine own_by (fun _ K => XS.aloadN X34.here hx rfl (hb hby d3_70) rfl rfl K) ?_
  show OwnG p e below s _ _ _ (T34.setTop (mkF m 71 _ [(.ref ob)]))
  refine own_by (fun _ K => XS.iloadN X34.here hx rfl (hb hby d3_71) rfl K) ?_
  show OwnG p e below s _ _ _ (T34.setTop (mkF m 72 _ [(.int 2), (.ref ob)]))
  obtain ⟨T45, h45, X45, e45, W45, st45⟩ := putF X34 hx hZ hown (host := "") (Or.inl (own_w hw 25 rfl)) Via.refl e34 f41 f35 (Or.inl (own_w hw 26 rfl)) (own_w hw 4 rfl) (ty := .int) (by decide) rfl rfl (g := (mkF m 72 #[.val (.ref ob), .val (.int 2), .val (.int 0), .val (.int d0), .val (.double (FP.i2d (sv d0))), .second] [(.int 2), (.ref ob)])) rfl rfl (hb hby d3_72)
  refine own_by (fun _ K => st45 _ K) ?_
  have f46 := Exa.wr W45 f35
  have f47 := Keep.wr f36 W45 (Or.inl (by simp))
  have f48 := Fld.other W45 f37 (Or.inr (slot_ne (Or.inl (own_w hw 13 rfl)) (Or.inl (own_w hw 26 rfl)) (by decide) (t := (.array .double)) (t' := .int) (by decide) (by decide)))
  have f49 := Fld.other W45 f38 (Or.inr (slot_ne (Or.inl (own_w hw 15 rfl)) (Or.inl (own_w hw 26 rfl)) (by decide) (t := (.array .int)) (t' := .int) (by decide) (by decide)))
  have f50 := Fld.other W45 f39 (Or.inr (slot_ne (Or.inr (own_w hw 17 rfl)) (Or.inl (own_w hw 26 rfl)) (by decide) (t := .int) (t' := .int) (by decide) (by decide)))
  have f51 := Fld.other W45 f40 (Or.inr (slot_ne (Or.inr (own_w hw 19 rfl)) (Or.inl (own_w hw 26 rfl)) (by decide) (t := (.array .int)) (t' := .int) (by decide) (by decide)))
  have f53 := OwnA.other W45 f42 (Ne.symm Nn.2.2.2.2.1)
  have f54 := OwnA.other W45 A34 (Ne.symm Nn.2.2.2.1)
  have f55 := OwnA.other W45 f44 (Ne.symm Nn.2.2.2.2.2.1)
  have f56 := Fld.same W45 f41
  have N45 := Fr.snoc X45 N34 Nn.1
  have sz45 : n0 ≤ h45.size := by rw [W45.size]; exact sz34
  show OwnG p e below s _ _ _ (T45.setTop (mkF m 75 _ []))
  exact own_outV X45 hx hret hlk (hb hby d3_75) (by show _ ∧ _; rw [e45]; exact ⟨rfl, N45, f47, _, _, r18_0, d0, ⟨f46, f48, f49, f50, f51, f56, f53, f54, f55⟩, ⟨t18_0.1, t18_0.2.1, t18_0.2.2⟩, ⟨rfl, rfl, t0.2.2⟩, hD18, rfl⟩) (by decide) (by decide)
theorem ef_3k3 (m : MethodId) (x0 : Addr) : entryFrame m #[(.ref x0)] 6 = mkF m 0 #[.val (.ref x0), .unset, .unset, .unset, .unset, .unset] [] := by first | (simp [entryFrame, mkF, argsToLocals, Value.category]; done) | rfl
def Q3k3 (Z : State) (sv pl : Int32 → Int32) (ob sa da pa : Addr) (fd fs fp : Nat → Value) (d0 d1 d2 : Int32) (h0 : Heap) (n0 : Nat) (v : Option Value) (h : Heap) (L : List Loc) : Prop := v = none ∧ Fr n0 L ∧ Keep h0 h [ob, sa, da] ∧ ∃ fd' fs', ∃ r0 r1 r2 : Int32, own_S Z h ob sa da pa (3 : Int32) fd' fs' fp ∧ own_at sv fd' fs' 0 r0 ∧ own_at sv fd' fs' 1 r1 ∧ own_at sv fd' fs' 2 r2 ∧ own_R3 (own_K sv pl) d0 d1 d2 r0 r1 r2
set_option maxRecDepth 65536 in
set_option maxHeartbeats 40000000 in
theorem rm3k3 (l : Launch) (Z : State) (a0 : Array Value) (hw : ∀ d ∈ tables_1, d.before a0 Z = true) (ws : List Jvm.Cond) (sv pl : Int32 → Int32) (ob sa da pa : Addr) (fd fs fp : Nat → Value) (d0 d1 d2 : Int32) (h0 : Heap) (n0 : Nat) (Z0 : n0 ≤ h0.size) (Sb : own_S Z h0 ob sa da pa (3 : Int32) fd fs fp) (Nn : own_N n0 ob sa da pa) (hP : own_P pl fp) (t0 : own_at sv fd fs 0 d0) (t1 : own_at sv fd fs 1 d1) (t2 : own_at sv fd fs 2 d2) :
    MetFree l (⟨"com/example/etsinta/etsinta/search/Best", "rank", "()V"⟩ : MethodName) (head1 (Jvm.Cond.code (⟨"com/example/etsinta/etsinta/search/Best", "rank", "()V"⟩ : MethodName) prog_26_method_5_code 6 none :: ws) ({ frames := 2, cells := 0, slots := 0, locals := 35 } : Room)) (fun aa_ U => aa_ = #[(.ref ob)] ∧ Z.Warmed39 U.vm ∧ U.heap = h0) (fun _ _ _ _ _ => True) (fun _ U o U' => ∃ v L, o = .returned v ∧ Q3k3 Z sv pl ob sa da pa fd fs fp d0 d1 d2 h0 n0 v U'.heap L ∧ FrameEnd U o U' L ({ frames := 2, cells := 0, slots := 0, locals := 35 } : Room).cells ({ frames := 2, cells := 0, slots := 0, locals := 35 } : Room).slots) := by
  refine own_met (Q := fun v h L => Q3k3 Z sv pl ob sa da pa fd fs fp d0 d1 d2 h0 n0 v h L) (plainFor_of_name pn_0) ?_
  intro p e s m below meth c s₁ hx hby hml hret hlk hown hnm hZ X0 e0
  have N0 := Fr.nil n0
  rw [ef_3k3 m ob]
  show OwnG p e below s _ _ _ (s₁.setTop (mkF m 0 #[.val (.ref ob), .unset, .unset, .unset, .unset, .unset] []))
  refine own_by (fun _ K => XS.aloadN X0.here hx rfl (hb hby d3_0) rfl rfl K) ?_
  show OwnG p e below s _ _ _ (s₁.setTop (mkF m 1 _ [(.ref ob)]))
  obtain ⟨T1, X1, e1, st1⟩ := getF X0 hx hZ hown (host := "") (Or.inl (own_w hw 25 rfl)) Via.refl e0 Sb.2.2.2.2.2.1 (g := (mkF m 1 #[.val (.ref ob), .unset, .unset, .unset, .unset, .unset] [(.ref ob)])) rfl rfl (hb hby d3_1)
  refine own_by (fun _ K => st1 _ K) ?_
  show OwnG p e below s _ _ _ (T1.setTop (mkF m 4 _ [(.int 3)]))
  refine own_by (fun _ K => XS.istoreN X1.here hx rfl (hb hby d3_4) rfl (l' := #[.val (.ref ob), .val (.int 3), .unset, .unset, .unset, .unset]) rfl K) ?_
  show OwnG p e below s _ _ _ (T1.setTop (mkF m 5 _ []))
  refine own_by (fun _ K => XS.iloadN X1.here hx rfl (hb hby d3_5) rfl K) ?_
  show OwnG p e below s _ _ _ (T1.setTop (mkF m 6 _ [(.int 3)]))
  refine own_by (fun _ K => XS.iconst X1.here hx rfl (hb hby d3_6) K) ?_
  show OwnG p e below s _ _ _ (T1.setTop (mkF m 7 _ [(.int 1), (.int 3)]))
  refine own_by (fun _ K => XS.isub X1.here hx rfl (hb hby d3_7) rfl K) ?_
  show OwnG p e below s _ _ _ (T1.setTop (mkF m 8 _ [(.int 2)]))
  refine own_by (fun _ K => XS.istoreN X1.here hx rfl (hb hby d3_8) rfl (l' := #[.val (.ref ob), .val (.int 3), .val (.int 2), .unset, .unset, .unset]) rfl K) ?_
  show OwnG p e below s _ _ _ (T1.setTop (mkF m 9 _ []))
  refine own_by (fun _ K => XS.iloadN X1.here hx rfl (hb hby d3_9) rfl K) ?_
  show OwnG p e below s _ _ _ (T1.setTop (mkF m 10 _ [(.int 2)]))
  refine own_by (fun _ K => XS.ifNo X1.here hx rfl (hb hby d3_10) rfl ((if0 _ _).trans (tlt (by decide)).2.2.2) K) ?_
  show OwnG p e below s _ _ _ (T1.setTop (mkF m 13 _ []))
  refine own_by (fun _ K => XS.aloadN X1.here hx rfl (hb hby d3_13) rfl rfl K) ?_
  show OwnG p e below s _ _ _ (T1.setTop (mkF m 14 _ [(.ref ob)]))
  obtain ⟨T2, X2, e2, st2⟩ := getF X1 hx hZ hown (host := "") (Or.inl (own_w hw 14 rfl)) Via.refl e1 Sb.2.2.1 (g := (mkF m 14 #[.val (.ref ob), .val (.int 3), .val (.int 2), .unset, .unset, .unset] [(.ref ob)])) rfl rfl (hb hby d3_14)
  refine own_by (fun _ K => st2 _ K) ?_
  show OwnG p e below s _ _ _ (T2.setTop (mkF m 17 _ [(.ref da)]))
  refine own_by (fun _ K => XS.iconst X2.here hx rfl (hb hby d3_17) K) ?_
  show OwnG p e below s _ _ _ (T2.setTop (mkF m 18 _ [(.int 0), (.ref da)]))
  refine own_by (fun _ K => own_ldI X2 hx hZ e2 Sb.2.2.2.2.2.2.1 (j := (0 : Int32)) (i := 0) ⟨by decide, rfl, by decide⟩ (v := (.int d0)) t0.1 (g := (mkF m 18 #[.val (.ref ob), .val (.int 3), .val (.int 2), .unset, .unset, .unset] [(.int 0), (.ref da)])) rfl rfl (hb hby d3_18) _ K) ?_
  show OwnG p e below s _ _ _ (T2.setTop (mkF m 19 _ [(.int d0)]))
  refine own_by (fun _ K => XS.istoreN X2.here hx rfl (hb hby d3_19) rfl (l' := #[.val (.ref ob), .val (.int 3), .val (.int 2), .val (.int d0), .unset, .unset]) rfl K) ?_
  show OwnG p e below s _ _ _ (T2.setTop (mkF m 20 _ []))
  refine own_by (fun _ K => XS.aloadN X2.here hx rfl (hb hby d3_20) rfl rfl K) ?_
  show OwnG p e below s _ _ _ (T2.setTop (mkF m 21 _ [(.ref ob)]))
  obtain ⟨T3, X3, e3, st3⟩ := getF X2 hx hZ hown (host := "") (Or.inl (own_w hw 12 rfl)) Via.refl e2 Sb.2.1 (g := (mkF m 21 #[.val (.ref ob), .val (.int 3), .val (.int 2), .val (.int d0), .unset, .unset] [(.ref ob)])) rfl rfl (hb hby d3_21)
  refine own_by (fun _ K => st3 _ K) ?_
  show OwnG p e below s _ _ _ (T3.setTop (mkF m 24 _ [(.ref sa)]))
  refine own_by (fun _ K => XS.iconst X3.here hx rfl (hb hby d3_24) K) ?_
  show OwnG p e below s _ _ _ (T3.setTop (mkF m 25 _ [(.int 0), (.ref sa)]))
  refine own_by (fun _ K => own_ldD X3 hx hZ e3 Sb.2.2.2.2.2.2.2.1 (j := (0 : Int32)) (i := 0) ⟨by decide, rfl, by decide⟩ (v := (.double (FP.i2d (sv d0)))) t0.2.1 (g := (mkF m 25 #[.val (.ref ob), .val (.int 3), .val (.int 2), .val (.int d0), .unset, .unset] [(.int 0), (.ref sa)])) rfl rfl (hb hby d3_25) _ K) ?_
  show OwnG p e below s _ _ _ (T3.setTop (mkF m 26 _ [(.double (FP.i2d (sv d0)))]))
  refine own_by (fun _ K => XS.dstore X3.here hx rfl (hb hby d3_26) rfl (l' := #[.val (.ref ob), .val (.int 3), .val (.int 2), .val (.int d0), .val (.double (FP.i2d (sv d0))), .second]) rfl K) ?_
  show OwnG p e below s _ _ _ (T3.setTop (mkF m 28 _ []))
  refine own_by (fun _ K => XS.aloadN X3.here hx rfl (hb hby d3_28) rfl rfl K) ?_
  show OwnG p e below s _ _ _ (T3.setTop (mkF m 29 _ [(.ref ob)]))
  refine own_by (fun _ K => XS.iloadN X3.here hx rfl (hb hby d3_29) rfl K) ?_
  show OwnG p e below s _ _ _ (T3.setTop (mkF m 30 _ [(.int 2), (.ref ob)]))
  obtain ⟨T4, h4, X4, e4, W4, st4⟩ := putF X3 hx hZ hown (host := "") (Or.inl (own_w hw 25 rfl)) Via.refl e3 Sb.2.2.2.2.2.1 Sb.1 (Or.inl (own_w hw 26 rfl)) (own_w hw 4 rfl) (ty := .int) (by decide) rfl rfl (g := (mkF m 30 #[.val (.ref ob), .val (.int 3), .val (.int 2), .val (.int d0), .val (.double (FP.i2d (sv d0))), .second] [(.int 2), (.ref ob)])) rfl rfl (hb hby d3_30)
  refine own_by (fun _ K => st4 _ K) ?_
  have f5 := Exa.wr W4 Sb.1
  have f6 := Fld.other W4 Sb.2.1 (Or.inr (slot_ne (Or.inl (own_w hw 13 rfl)) (Or.inl (own_w hw 26 rfl)) (by decide) (t := (.array .double)) (t' := .int) (by decide) (by decide)))
  have f7 := Fld.other W4 Sb.2.2.1 (Or.inr (slot_ne (Or.inl (own_w hw 15 rfl)) (Or.inl (own_w hw 26 rfl)) (by decide) (t := (.array .int)) (t' := .int) (by decide) (by decide)))
  have f8 := Fld.other W4 Sb.2.2.2.1 (Or.inr (slot_ne (Or.inr (own_w hw 17 rfl)) (Or.inl (own_w hw 26 rfl)) (by decide) (t := .int) (t' := .int) (by decide) (by decide)))
  have f9 := Fld.other W4 Sb.2.2.2.2.1 (Or.inr (slot_ne (Or.inr (own_w hw 19 rfl)) (Or.inl (own_w hw 26 rfl)) (by decide) (t := (.array .int)) (t' := .int) (by decide) (by decide)))
  have f11 := OwnA.other W4 Sb.2.2.2.2.2.2.1 (Ne.symm Nn.2.2.2.2.1)
  have f12 := OwnA.other W4 Sb.2.2.2.2.2.2.2.1 (Ne.symm Nn.2.2.2.1)
  have f13 := OwnA.other W4 Sb.2.2.2.2.2.2.2.2 (Ne.symm Nn.2.2.2.2.2.1)
  have f14 := Keep.wr (Keep.refl h0 [ob, sa, da]) W4 (Or.inl (by simp))
  have f15 := Fld.same W4 Sb.2.2.2.2.2.1
  have N4 := Fr.snoc X4 N0 Nn.1
  have sz4 : n0 ≤ h4.size := by rw [W4.size]; exact Z0
  show OwnG p e below s _ _ _ (T4.setTop (mkF m 33 _ []))
  refine own_by (fun _ K => XS.aloadN X4.here hx rfl (hb hby d3_33) rfl rfl K) ?_
  show OwnG p e below s _ _ _ (T4.setTop (mkF m 34 _ [(.ref ob)]))
  refine own_by (fun _ K => XS.aloadN X4.here hx rfl (hb hby d3_34) rfl rfl K) ?_
  show OwnG p e below s _ _ _ (T4.setTop (mkF m 35 _ [(.ref ob), (.ref ob)]))
  obtain ⟨T16, X16, e16, st16⟩ := getF X4 hx hZ hown (host := "") (Or.inl (own_w hw 14 rfl)) Via.refl e4 f7 (g := (mkF m 35 #[.val (.ref ob), .val (.int 3), .val (.int 2), .val (.int d0), .val (.double (FP.i2d (sv d0))), .second] [(.ref ob), (.ref ob)])) rfl rfl (hb hby d3_35)
  refine own_by (fun _ K => st16 _ K) ?_
  show OwnG p e below s _ _ _ (T16.setTop (mkF m 38 _ [(.ref da), (.ref ob)]))
  refine own_by (fun _ K => XS.iloadN X16.here hx rfl (hb hby d3_38) rfl K) ?_
  show OwnG p e below s _ _ _ (T16.setTop (mkF m 39 _ [(.int 2), (.ref da), (.ref ob)]))
  refine own_by (fun _ K => own_ldI X16 hx hZ e16 f11 (j := (2 : Int32)) (i := 2) ⟨by decide, rfl, by decide⟩ (v := (.int d2)) t2.1 (g := (mkF m 39 #[.val (.ref ob), .val (.int 3), .val (.int 2), .val (.int d0), .val (.double (FP.i2d (sv d0))), .second] [(.int 2), (.ref da), (.ref ob)])) rfl rfl (hb hby d3_39) _ K) ?_
  show OwnG p e below s _ _ _ (T16.setTop (mkF m 40 _ [(.int d2), (.ref ob)]))
  refine own_by (fun _ K => XS.aloadN X16.here hx rfl (hb hby d3_40) rfl rfl K) ?_
  show OwnG p e below s _ _ _ (T16.setTop (mkF m 41 _ [(.ref ob), (.int d2), (.ref ob)]))
  obtain ⟨T17, X17, e17, st17⟩ := getF X16 hx hZ hown (host := "") (Or.inl (own_w hw 12 rfl)) Via.refl e16 f6 (g := (mkF m 41 #[.val (.ref ob), .val (.int 3), .val (.int 2), .val (.int d0), .val (.double (FP.i2d (sv d0))), .second] [(.ref ob), (.int d2), (.ref ob)])) rfl rfl (hb hby d3_41)
  refine own_by (fun _ K => st17 _ K) ?_
  show OwnG p e below s _ _ _ (T17.setTop (mkF m 44 _ [(.ref sa), (.int d2), (.ref ob)]))
  refine own_by (fun _ K => XS.iloadN X17.here hx rfl (hb hby d3_44) rfl K) ?_
  show OwnG p e below s _ _ _ (T17.setTop (mkF m 45 _ [(.int 2), (.ref sa), (.int d2), (.ref ob)]))
  refine own_by (fun _ K => own_ldD X17 hx hZ e17 f12 (j := (2 : Int32)) (i := 2) ⟨by decide, rfl, by decide⟩ (v := (.double (FP.i2d (sv d2)))) t2.2.1 (g := (mkF m 45 #[.val (.ref ob), .val (.int 3), .val (.int 2), .val (.int d0), .val (.double (FP.i2d (sv d0))), .second] [(.int 2), (.ref sa), (.int d2), (.ref ob)])) rfl rfl (hb hby d3_45) _ K) ?_
  show OwnG p e below s _ _ _ (T17.setTop (mkF m 46 _ [(.double (FP.i2d (sv d2))), (.int d2), (.ref ob)]))
  obtain ⟨cq18, q18, q18'⟩ := Exa.cell f5
  obtain ⟨_, _, ⟨T18, L18, k18, n18⟩, -, X18, ⟨Lc18, hQ18, l18, y18, z18⟩, st18⟩ := X17.privateBack hx (y := (⟨"com/example/etsinta/etsinta/search/Best", "siftDown", "(ID)V"⟩ : MethodName)) hown (mvT hZ (own_w hw 73 rfl)) (mvT hZ (own_w hw 74 rfl)) (own_selp hZ (y := (⟨"com/example/etsinta/etsinta/search/Best", "siftDown", "(ID)V"⟩ : MethodName)) (own_w hw 4 rfl) (own_w hw 75 rfl) (own_w hw 74 rfl) (by decide)) (Cond.privateMethod_at (mvP hZ (own_w hw 75 rfl) (args := #[]))) (mvT hZ (own_w hw 76 rfl)) (by decide) (backOf (W := 0) (rm15d2 l Z a0 hw [] sv pl ob sa da pa fd fs fp d1 d2 h4 n0 sz4 ⟨f5, f6, f7, f8, f9, f15, f11, f12, f13⟩ Nn hP ⟨t1.1, t1.2.1, t1.2.2⟩ t2.2.2) hZ (own_w hw 76 rfl) (own_w hw 5 rfl) (by decide) (by decide)) (g := (mkF m 46 #[.val (.ref ob), .val (.int 3), .val (.int 2), .val (.int d0), .val (.double (FP.i2d (sv d0))), .second] [(.double (FP.i2d (sv d2))), (.int d2), (.ref ob)])) rfl (by rw [hml]; rfl) (Steps.refl _) (a := ob) (by rw [e17]; exact q18) q18' (argsL := [(.int d2), (.double (FP.i2d (sv d2)))]) (rest := []) (lenOf pd_2 rfl) rfl (by show 2 * 0 + _ ≤ _; exact Nat.le_of_eq rfl) (hb hby d3_46) (fun _ _ => ⟨rfl, e17, (by decide : 0 + 0 ≤ _), (by decide : 0 + 0 ≤ _)⟩)
  dsimp only [Pt.U, Pt.locs, Pt.cells, Pt.slots] at X18 l18 y18 z18 st18 hQ18
  subst l18 y18 z18
  refine own_by (fun _ K => st18.trans K) ?_
  obtain ⟨rfl, N18q, K18, fd18, fs18, r18_0, r18_1, S18, t18_0, t18_1, hD18, hH18⟩ := hQ18
  have N18 := Fr.app N4 N18q
  have sz18 : n0 ≤ T18.heap.size := Nat.le_trans sz4 K18.1
  have f19 := Exa.keep f5 K18
  have f20 := Keep.trans f14 K18 (allS (Or.inl (by simp)) (allS (Or.inl (by simp)) all0))
  show OwnG p e below s _ _ _ (T18.setTop (mkF m 49 _ []))
  refine own_by (fun _ K => XS.aloadN X18.here hx rfl (hb hby d3_49) rfl rfl K) ?_
  show OwnG p e below s _ _ _ (T18.setTop (mkF m 50 _ [(.ref ob)]))
  obtain ⟨T21, X21, e21, st21⟩ := getF X18 hx hZ hown (host := "") (Or.inl (own_w hw 14 rfl)) Via.refl (rfl : T18.heap = T18.heap) S18.2.2.1 (g := (mkF m 50 #[.val (.ref ob), .val (.int 3), .val (.int 2), .val (.int d0), .val (.double (FP.i2d (sv d0))), .second] [(.ref ob)])) rfl rfl (hb hby d3_50)
  refine own_by (fun _ K => st21 _ K) ?_
  show OwnG p e below s _ _ _ (T21.setTop (mkF m 53 _ [(.ref da)]))
  refine own_by (fun _ K => XS.iloadN X21.here hx rfl (hb hby d3_53) rfl K) ?_
  show OwnG p e below s _ _ _ (T21.setTop (mkF m 54 _ [(.int 2), (.ref da)]))
  refine own_by (fun _ K => XS.iloadN X21.here hx rfl (hb hby d3_54) rfl K) ?_
  show OwnG p e below s _ _ _ (T21.setTop (mkF m 55 _ [(.int d0), (.int 2), (.ref da)]))
  obtain ⟨T22, h22, X22, e22, W22, A22, st22⟩ := own_stI X21 hx hZ e21 S18.2.2.2.2.2.2.1 (j := (2 : Int32)) (i := 2) ⟨by decide, rfl, by decide⟩ (g := (mkF m 55 #[.val (.ref ob), .val (.int 3), .val (.int 2), .val (.int d0), .val (.double (FP.i2d (sv d0))), .second] [(.int d0), (.int 2), (.ref da)])) rfl rfl (hb hby d3_55)
  refine own_by (fun _ K => st22 _ K) ?_
  have f23 := Exa.wr W22 S18.1
  have f24 := Keep.wr f20 W22 (Or.inl (by simp))
  have f25 := Fld.other W22 S18.2.1 (Or.inl Nn.2.2.2.2.1)
  have f26 := Fld.other W22 S18.2.2.1 (Or.inl Nn.2.2.2.2.1)
  have f27 := Fld.other W22 S18.2.2.2.1 (Or.inl Nn.2.2.2.2.1)
  have f28 := Fld.other W22 S18.2.2.2.2.1 (Or.inl Nn.2.2.2.2.1)
  have f29 := Fld.other W22 S18.2.2.2.2.2.1 (Or.inl Nn.2.2.2.2.1)
  have f31 := OwnA.other W22 S18.2.2.2.2.2.2.2.1 Nn.2.2.2.2.2.2.1
  have f32 := OwnA.other W22 S18.2.2.2.2.2.2.2.2 (Ne.symm Nn.2.2.2.2.2.2.2.2)
  have N22 := Fr.snoc X22 N18 Nn.2.2.1
  have sz22 : n0 ≤ h22.size := by rw [W22.size]; exact sz18
  show OwnG p e below s _ _ _ (T22.setTop (mkF m 56 _ []))
  refine own_by (fun _ K => XS.aloadN X22.here hx rfl (hb hby d3_56) rfl rfl K) ?_
  show OwnG p e below s _ _ _ (T22.setTop (mkF m 57 _ [(.ref ob)]))
  obtain ⟨T33, X33, e33, st33⟩ := getF X22 hx hZ hown (host := "") (Or.inl (own_w hw 12 rfl)) Via.refl e22 f25 (g := (mkF m 57 #[.val (.ref ob), .val (.int 3), .val (.int 2), .val (.int d0), .val (.double (FP.i2d (sv d0))), .second] [(.ref ob)])) rfl rfl (hb hby d3_57)
  refine own_by (fun _ K => st33 _ K) ?_
  show OwnG p e below s _ _ _ (T33.setTop (mkF m 60 _ [(.ref sa)]))
  refine own_by (fun _ K => XS.iloadN X33.here hx rfl (hb hby d3_60) rfl K) ?_
  show OwnG p e below s _ _ _ (T33.setTop (mkF m 61 _ [(.int 2), (.ref sa)]))
  refine own_by (fun _ K => XS.dload X33.here hx rfl (hb hby d3_61) rfl K) ?_
  show OwnG p e below s _ _ _ (T33.setTop (mkF m 63 _ [(.double (FP.i2d (sv d0))), (.int 2), (.ref sa)]))
  obtain ⟨T34, h34, X34, e34, W34, A34, st34⟩ := own_stD X33 hx hZ e33 f31 (j := (2 : Int32)) (i := 2) ⟨by decide, rfl, by decide⟩ (g := (mkF m 63 #[.val (.ref ob), .val (.int 3), .val (.int 2), .val (.int d0), .val (.double (FP.i2d (sv d0))), .second] [(.double (FP.i2d (sv d0))), (.int 2), (.ref sa)])) rfl rfl (hb hby d3_63)
  refine own_by (fun _ K => st34 _ K) ?_
  have f35 := Exa.wr W34 f23
  have f36 := Keep.wr f24 W34 (Or.inl (by simp))
  have f37 := Fld.other W34 f25 (Or.inl Nn.2.2.2.1)
  have f38 := Fld.other W34 f26 (Or.inl Nn.2.2.2.1)
  have f39 := Fld.other W34 f27 (Or.inl Nn.2.2.2.1)
  have f40 := Fld.other W34 f28 (Or.inl Nn.2.2.2.1)
  have f41 := Fld.other W34 f29 (Or.inl Nn.2.2.2.1)
  have f42 := OwnA.other W34 A22 (Ne.symm Nn.2.2.2.2.2.2.1)
  have f44 := OwnA.other W34 f32 (Ne.symm Nn.2.2.2.2.2.2.2.1)
  have N34 := Fr.snoc X34 N22 Nn.2.1
  have sz34 : n0 ≤ h34.size := by rw [W34.size]; exact sz22
  show OwnG p e below s _ _ _ (T34.setTop (mkF m 64 _ []))
  refine own_by (fun _ K => XS.iinc X34.here hx rfl (hb hby d3_64) rfl (l' := #[.val (.ref ob), .val (.int 3), .val (.int 1), .val (.int d0), .val (.double (FP.i2d (sv d0))), .second]) rfl K) ?_
  show OwnG p e below s _ _ _ (T34.setTop (mkF m 67 _ []))
  refine own_by (fun _ K => XS.goto X34.here hx rfl (pc0 := 67) (pc' := 9) rfl (hb hby d3_67) (by decide) (by decide) K) ?_
  show OwnG p e below s _ _ _ (T34.setTop (mkF m 9 _ []))
  refine own_by (fun _ K => XS.iloadN X34.here hx rfl (hb hby d3_9) rfl K) ?_
  show OwnG p e below s _ _ _ (T34.setTop (mkF m 10 _ [(.int 1)]))
  refine own_by (fun _ K => XS.ifNo X34.here hx rfl (hb hby d3_10) rfl ((if0 _ _).trans (tlt (by decide)).2.2.2) K) ?_
  show OwnG p e below s _ _ _ (T34.setTop (mkF m 13 _ []))
  refine own_by (fun _ K => XS.aloadN X34.here hx rfl (hb hby d3_13) rfl rfl K) ?_
  show OwnG p e below s _ _ _ (T34.setTop (mkF m 14 _ [(.ref ob)]))
  obtain ⟨T45, X45, e45, st45⟩ := getF X34 hx hZ hown (host := "") (Or.inl (own_w hw 14 rfl)) Via.refl e34 f38 (g := (mkF m 14 #[.val (.ref ob), .val (.int 3), .val (.int 1), .val (.int d0), .val (.double (FP.i2d (sv d0))), .second] [(.ref ob)])) rfl rfl (hb hby d3_14)
  refine own_by (fun _ K => st45 _ K) ?_
  show OwnG p e below s _ _ _ (T45.setTop (mkF m 17 _ [(.ref da)]))
  refine own_by (fun _ K => XS.iconst X45.here hx rfl (hb hby d3_17) K) ?_
  show OwnG p e below s _ _ _ (T45.setTop (mkF m 18 _ [(.int 0), (.ref da)]))
  refine own_by (fun _ K => own_ldI X45 hx hZ e45 f42 (j := (0 : Int32)) (i := 0) ⟨by decide, rfl, by decide⟩ (v := (.int r18_0)) t18_0.1 (g := (mkF m 18 #[.val (.ref ob), .val (.int 3), .val (.int 1), .val (.int d0), .val (.double (FP.i2d (sv d0))), .second] [(.int 0), (.ref da)])) rfl rfl (hb hby d3_18) _ K) ?_
  show OwnG p e below s _ _ _ (T45.setTop (mkF m 19 _ [(.int r18_0)]))
  refine own_by (fun _ K => XS.istoreN X45.here hx rfl (hb hby d3_19) rfl (l' := #[.val (.ref ob), .val (.int 3), .val (.int 1), .val (.int r18_0), .val (.double (FP.i2d (sv d0))), .second]) rfl K) ?_
  show OwnG p e below s _ _ _ (T45.setTop (mkF m 20 _ []))
  refine own_by (fun _ K => XS.aloadN X45.here hx rfl (hb hby d3_20) rfl rfl K) ?_
  show OwnG p e below s _ _ _ (T45.setTop (mkF m 21 _ [(.ref ob)]))
  obtain ⟨T46, X46, e46, st46⟩ := getF X45 hx hZ hown (host := "") (Or.inl (own_w hw 12 rfl)) Via.refl e45 f37 (g := (mkF m 21 #[.val (.ref ob), .val (.int 3), .val (.int 1), .val (.int r18_0), .val (.double (FP.i2d (sv d0))), .second] [(.ref ob)])) rfl rfl (hb hby d3_21)
  refine own_by (fun _ K => st46 _ K) ?_
  show OwnG p e below s _ _ _ (T46.setTop (mkF m 24 _ [(.ref sa)]))
  refine own_by (fun _ K => XS.iconst X46.here hx rfl (hb hby d3_24) K) ?_
  show OwnG p e below s _ _ _ (T46.setTop (mkF m 25 _ [(.int 0), (.ref sa)]))
  refine own_by (fun _ K => own_ldD X46 hx hZ e46 A34 (j := (0 : Int32)) (i := 0) ⟨by decide, rfl, by decide⟩ (v := (.double (FP.i2d (sv r18_0)))) t18_0.2.1 (g := (mkF m 25 #[.val (.ref ob), .val (.int 3), .val (.int 1), .val (.int r18_0), .val (.double (FP.i2d (sv d0))), .second] [(.int 0), (.ref sa)])) rfl rfl (hb hby d3_25) _ K) ?_
  show OwnG p e below s _ _ _ (T46.setTop (mkF m 26 _ [(.double (FP.i2d (sv r18_0)))]))
  refine own_by (fun _ K => XS.dstore X46.here hx rfl (hb hby d3_26) rfl (l' := #[.val (.ref ob), .val (.int 3), .val (.int 1), .val (.int r18_0), .val (.double (FP.i2d (sv r18_0))), .second]) rfl K) ?_
  show OwnG p e below s _ _ _ (T46.setTop (mkF m 28 _ []))
  refine own_by (fun _ K => XS.aloadN X46.here hx rfl (hb hby d3_28) rfl rfl K) ?_
  show OwnG p e below s _ _ _ (T46.setTop (mkF m 29 _ [(.ref ob)]))
  refine own_by (fun _ K => XS.iloadN X46.here hx rfl (hb hby d3_29) rfl K) ?_
  show OwnG p e below s _ _ _ (T46.setTop (mkF m 30 _ [(.int 1), (.ref ob)]))
  obtain ⟨T47, h47, X47, e47, W47, st47⟩ := putF X46 hx hZ hown (host := "") (Or.inl (own_w hw 25 rfl)) Via.refl e46 f41 f35 (Or.inl (own_w hw 26 rfl)) (own_w hw 4 rfl) (ty := .int) (by decide) rfl rfl (g := (mkF m 30 #[.val (.ref ob), .val (.int 3), .val (.int 1), .val (.int r18_0), .val (.double (FP.i2d (sv r18_0))), .second] [(.int 1), (.ref ob)])) rfl rfl (hb hby d3_30)
  refine own_by (fun _ K => st47 _ K) ?_
  have f48 := Exa.wr W47 f35
  have f49 := Keep.wr f36 W47 (Or.inl (by simp))
  have f50 := Fld.other W47 f37 (Or.inr (slot_ne (Or.inl (own_w hw 13 rfl)) (Or.inl (own_w hw 26 rfl)) (by decide) (t := (.array .double)) (t' := .int) (by decide) (by decide)))
  have f51 := Fld.other W47 f38 (Or.inr (slot_ne (Or.inl (own_w hw 15 rfl)) (Or.inl (own_w hw 26 rfl)) (by decide) (t := (.array .int)) (t' := .int) (by decide) (by decide)))
  have f52 := Fld.other W47 f39 (Or.inr (slot_ne (Or.inr (own_w hw 17 rfl)) (Or.inl (own_w hw 26 rfl)) (by decide) (t := .int) (t' := .int) (by decide) (by decide)))
  have f53 := Fld.other W47 f40 (Or.inr (slot_ne (Or.inr (own_w hw 19 rfl)) (Or.inl (own_w hw 26 rfl)) (by decide) (t := (.array .int)) (t' := .int) (by decide) (by decide)))
  have f55 := OwnA.other W47 f42 (Ne.symm Nn.2.2.2.2.1)
  have f56 := OwnA.other W47 A34 (Ne.symm Nn.2.2.2.1)
  have f57 := OwnA.other W47 f44 (Ne.symm Nn.2.2.2.2.2.1)
  have f58 := Fld.same W47 f41
  have N47 := Fr.snoc X47 N34 Nn.1
  have sz47 : n0 ≤ h47.size := by rw [W47.size]; exact sz34
  show OwnG p e below s _ _ _ (T47.setTop (mkF m 33 _ []))
  refine own_by (fun _ K => XS.aloadN X47.here hx rfl (hb hby d3_33) rfl rfl K) ?_
  show OwnG p e below s _ _ _ (T47.setTop (mkF m 34 _ [(.ref ob)]))
  refine own_by (fun _ K => XS.aloadN X47.here hx rfl (hb hby d3_34) rfl rfl K) ?_
  show OwnG p e below s _ _ _ (T47.setTop (mkF m 35 _ [(.ref ob), (.ref ob)]))
  obtain ⟨T59, X59, e59, st59⟩ := getF X47 hx hZ hown (host := "") (Or.inl (own_w hw 14 rfl)) Via.refl e47 f51 (g := (mkF m 35 #[.val (.ref ob), .val (.int 3), .val (.int 1), .val (.int r18_0), .val (.double (FP.i2d (sv r18_0))), .second] [(.ref ob), (.ref ob)])) rfl rfl (hb hby d3_35)
  refine own_by (fun _ K => st59 _ K) ?_
  show OwnG p e below s _ _ _ (T59.setTop (mkF m 38 _ [(.ref da), (.ref ob)]))
  refine own_by (fun _ K => XS.iloadN X59.here hx rfl (hb hby d3_38) rfl K) ?_
  show OwnG p e below s _ _ _ (T59.setTop (mkF m 39 _ [(.int 1), (.ref da), (.ref ob)]))
  refine own_by (fun _ K => own_ldI X59 hx hZ e59 f55 (j := (1 : Int32)) (i := 1) ⟨by decide, rfl, by decide⟩ (v := (.int r18_1)) t18_1.1 (g := (mkF m 39 #[.val (.ref ob), .val (.int 3), .val (.int 1), .val (.int r18_0), .val (.double (FP.i2d (sv r18_0))), .second] [(.int 1), (.ref da), (.ref ob)])) rfl rfl (hb hby d3_39) _ K) ?_
  show OwnG p e below s _ _ _ (T59.setTop (mkF m 40 _ [(.int r18_1), (.ref ob)]))
  refine own_by (fun _ K => XS.aloadN X59.here hx rfl (hb hby d3_40) rfl rfl K) ?_
  show OwnG p e below s _ _ _ (T59.setTop (mkF m 41 _ [(.ref ob), (.int r18_1), (.ref ob)]))
  obtain ⟨T60, X60, e60, st60⟩ := getF X59 hx hZ hown (host := "") (Or.inl (own_w hw 12 rfl)) Via.refl e59 f50 (g := (mkF m 41 #[.val (.ref ob), .val (.int 3), .val (.int 1), .val (.int r18_0), .val (.double (FP.i2d (sv r18_0))), .second] [(.ref ob), (.int r18_1), (.ref ob)])) rfl rfl (hb hby d3_41)
  refine own_by (fun _ K => st60 _ K) ?_
  show OwnG p e below s _ _ _ (T60.setTop (mkF m 44 _ [(.ref sa), (.int r18_1), (.ref ob)]))
  refine own_by (fun _ K => XS.iloadN X60.here hx rfl (hb hby d3_44) rfl K) ?_
  show OwnG p e below s _ _ _ (T60.setTop (mkF m 45 _ [(.int 1), (.ref sa), (.int r18_1), (.ref ob)]))
  refine own_by (fun _ K => own_ldD X60 hx hZ e60 f56 (j := (1 : Int32)) (i := 1) ⟨by decide, rfl, by decide⟩ (v := (.double (FP.i2d (sv r18_1)))) t18_1.2.1 (g := (mkF m 45 #[.val (.ref ob), .val (.int 3), .val (.int 1), .val (.int r18_0), .val (.double (FP.i2d (sv r18_0))), .second] [(.int 1), (.ref sa), (.int r18_1), (.ref ob)])) rfl rfl (hb hby d3_45) _ K) ?_
  show OwnG p e below s _ _ _ (T60.setTop (mkF m 46 _ [(.double (FP.i2d (sv r18_1))), (.int r18_1), (.ref ob)]))
  obtain ⟨cq61, q61, q61'⟩ := Exa.cell f48
  obtain ⟨_, _, ⟨T61, L61, k61, n61⟩, -, X61, ⟨Lc61, hQ61, l61, y61, z61⟩, st61⟩ := X60.privateBack hx (y := (⟨"com/example/etsinta/etsinta/search/Best", "siftDown", "(ID)V"⟩ : MethodName)) hown (mvT hZ (own_w hw 73 rfl)) (mvT hZ (own_w hw 74 rfl)) (own_selp hZ (y := (⟨"com/example/etsinta/etsinta/search/Best", "siftDown", "(ID)V"⟩ : MethodName)) (own_w hw 4 rfl) (own_w hw 75 rfl) (own_w hw 74 rfl) (by decide)) (Cond.privateMethod_at (mvP hZ (own_w hw 75 rfl) (args := #[]))) (mvT hZ (own_w hw 76 rfl)) (by decide) (backOf (W := 0) (rm15d1 l Z a0 hw [] sv pl ob sa da pa (ownSet fd18 2 (.int d0)) (ownSet fs18 2 (.double (FP.i2d (sv d0)))) fp r18_1 h47 n0 sz47 ⟨f48, f50, f51, f52, f53, f58, f55, f56, f57⟩ Nn hP  t18_1.2.2) hZ (own_w hw 76 rfl) (own_w hw 5 rfl) (by decide) (by decide)) (g := (mkF m 46 #[.val (.ref ob), .val (.int 3), .val (.int 1), .val (.int r18_0), .val (.double (FP.i2d (sv r18_0))), .second] [(.double (FP.i2d (sv r18_1))), (.int r18_1), (.ref ob)])) rfl (by rw [hml]; rfl) (Steps.refl _) (a := ob) (by rw [e60]; exact q61) q61' (argsL := [(.int r18_1), (.double (FP.i2d (sv r18_1)))]) (rest := []) (lenOf pd_2 rfl) rfl (by show 2 * 0 + _ ≤ _; exact Nat.le_of_eq rfl) (hb hby d3_46) (fun _ _ => ⟨rfl, e60, (by decide : 0 + 0 ≤ _), (by decide : 0 + 0 ≤ _)⟩)
  dsimp only [Pt.U, Pt.locs, Pt.cells, Pt.slots] at X61 l61 y61 z61 st61 hQ61
  subst l61 y61 z61
  refine own_by (fun _ K => st61.trans K) ?_
  obtain ⟨rfl, N61q, K61, fd61, fs61, r61_0, S61, t61_0, hD61, hH61⟩ := hQ61
  have N61 := Fr.app N47 N61q
  have sz61 : n0 ≤ T61.heap.size := Nat.le_trans sz47 K61.1
  have f62 := Exa.keep f48 K61
  have f63 := Keep.trans f49 K61 (allS (Or.inl (by simp)) (allS (Or.inl (by simp)) all0))
  show OwnG p e below s _ _ _ (T61.setTop (mkF m 49 _ []))
  refine own_by (fun _ K => XS.aloadN X61.here hx rfl (hb hby d3_49) rfl rfl K) ?_
  show OwnG p e below s _ _ _ (T61.setTop (mkF m 50 _ [(.ref ob)]))
  obtain ⟨T64, X64, e64, st64⟩ := getF X61 hx hZ hown (host := "") (Or.inl (own_w hw 14 rfl)) Via.refl (rfl : T61.heap = T61.heap) S61.2.2.1 (g := (mkF m 50 #[.val (.ref ob), .val (.int 3), .val (.int 1), .val (.int r18_0), .val (.double (FP.i2d (sv r18_0))), .second] [(.ref ob)])) rfl rfl (hb hby d3_50)
  refine own_by (fun _ K => st64 _ K) ?_
  show OwnG p e below s _ _ _ (T64.setTop (mkF m 53 _ [(.ref da)]))
  refine own_by (fun _ K => XS.iloadN X64.here hx rfl (hb hby d3_53) rfl K) ?_
  show OwnG p e below s _ _ _ (T64.setTop (mkF m 54 _ [(.int 1), (.ref da)]))
  refine own_by (fun _ K => XS.iloadN X64.here hx rfl (hb hby d3_54) rfl K) ?_
  show OwnG p e below s _ _ _ (T64.setTop (mkF m 55 _ [(.int r18_0), (.int 1), (.ref da)]))
  obtain ⟨T65, h65, X65, e65, W65, A65, st65⟩ := own_stI X64 hx hZ e64 S61.2.2.2.2.2.2.1 (j := (1 : Int32)) (i := 1) ⟨by decide, rfl, by decide⟩ (g := (mkF m 55 #[.val (.ref ob), .val (.int 3), .val (.int 1), .val (.int r18_0), .val (.double (FP.i2d (sv r18_0))), .second] [(.int r18_0), (.int 1), (.ref da)])) rfl rfl (hb hby d3_55)
  refine own_by (fun _ K => st65 _ K) ?_
  have f66 := Exa.wr W65 S61.1
  have f67 := Keep.wr f63 W65 (Or.inl (by simp))
  have f68 := Fld.other W65 S61.2.1 (Or.inl Nn.2.2.2.2.1)
  have f69 := Fld.other W65 S61.2.2.1 (Or.inl Nn.2.2.2.2.1)
  have f70 := Fld.other W65 S61.2.2.2.1 (Or.inl Nn.2.2.2.2.1)
  have f71 := Fld.other W65 S61.2.2.2.2.1 (Or.inl Nn.2.2.2.2.1)
  have f72 := Fld.other W65 S61.2.2.2.2.2.1 (Or.inl Nn.2.2.2.2.1)
  have f74 := OwnA.other W65 S61.2.2.2.2.2.2.2.1 Nn.2.2.2.2.2.2.1
  have f75 := OwnA.other W65 S61.2.2.2.2.2.2.2.2 (Ne.symm Nn.2.2.2.2.2.2.2.2)
  have N65 := Fr.snoc X65 N61 Nn.2.2.1
  have sz65 : n0 ≤ h65.size := by rw [W65.size]; exact sz61
  show OwnG p e below s _ _ _ (T65.setTop (mkF m 56 _ []))
  refine own_by (fun _ K => XS.aloadN X65.here hx rfl (hb hby d3_56) rfl rfl K) ?_
  show OwnG p e below s _ _ _ (T65.setTop (mkF m 57 _ [(.ref ob)]))
  obtain ⟨T76, X76, e76, st76⟩ := getF X65 hx hZ hown (host := "") (Or.inl (own_w hw 12 rfl)) Via.refl e65 f68 (g := (mkF m 57 #[.val (.ref ob), .val (.int 3), .val (.int 1), .val (.int r18_0), .val (.double (FP.i2d (sv r18_0))), .second] [(.ref ob)])) rfl rfl (hb hby d3_57)
  refine own_by (fun _ K => st76 _ K) ?_
  show OwnG p e below s _ _ _ (T76.setTop (mkF m 60 _ [(.ref sa)]))
  refine own_by (fun _ K => XS.iloadN X76.here hx rfl (hb hby d3_60) rfl K) ?_
  show OwnG p e below s _ _ _ (T76.setTop (mkF m 61 _ [(.int 1), (.ref sa)]))
  refine own_by (fun _ K => XS.dload X76.here hx rfl (hb hby d3_61) rfl K) ?_
  show OwnG p e below s _ _ _ (T76.setTop (mkF m 63 _ [(.double (FP.i2d (sv r18_0))), (.int 1), (.ref sa)]))
  obtain ⟨T77, h77, X77, e77, W77, A77, st77⟩ := own_stD X76 hx hZ e76 f74 (j := (1 : Int32)) (i := 1) ⟨by decide, rfl, by decide⟩ (g := (mkF m 63 #[.val (.ref ob), .val (.int 3), .val (.int 1), .val (.int r18_0), .val (.double (FP.i2d (sv r18_0))), .second] [(.double (FP.i2d (sv r18_0))), (.int 1), (.ref sa)])) rfl rfl (hb hby d3_63)
  refine own_by (fun _ K => st77 _ K) ?_
  have f78 := Exa.wr W77 f66
  have f79 := Keep.wr f67 W77 (Or.inl (by simp))
  have f80 := Fld.other W77 f68 (Or.inl Nn.2.2.2.1)
  have f81 := Fld.other W77 f69 (Or.inl Nn.2.2.2.1)
  have f82 := Fld.other W77 f70 (Or.inl Nn.2.2.2.1)
  have f83 := Fld.other W77 f71 (Or.inl Nn.2.2.2.1)
  have f84 := Fld.other W77 f72 (Or.inl Nn.2.2.2.1)
  have f85 := OwnA.other W77 A65 (Ne.symm Nn.2.2.2.2.2.2.1)
  have f87 := OwnA.other W77 f75 (Ne.symm Nn.2.2.2.2.2.2.2.1)
  have N77 := Fr.snoc X77 N65 Nn.2.1
  have sz77 : n0 ≤ h77.size := by rw [W77.size]; exact sz65
  show OwnG p e below s _ _ _ (T77.setTop (mkF m 64 _ []))
  refine own_by (fun _ K => XS.iinc X77.here hx rfl (hb hby d3_64) rfl (l' := #[.val (.ref ob), .val (.int 3), .val (.int 0), .val (.int r18_0), .val (.double (FP.i2d (sv r18_0))), .second]) rfl K) ?_
  show OwnG p e below s _ _ _ (T77.setTop (mkF m 67 _ []))
  refine own_by (fun _ K => XS.goto X77.here hx rfl (pc0 := 67) (pc' := 9) rfl (hb hby d3_67) (by decide) (by decide) K) ?_
  show OwnG p e below s _ _ _ (T77.setTop (mkF m 9 _ []))
  refine own_by (fun _ K => XS.iloadN X77.here hx rfl (hb hby d3_9) rfl K) ?_
  show OwnG p e below s _ _ _ (T77.setTop (mkF m 10 _ [(.int 0)]))
  refine own_by (fun _ K => XS.ifYes X77.here hx rfl (pc0 := 10) (pc' := 70) rfl (hb hby d3_10) rfl ((if0 _ _).trans (flt (by decide)).2.2.2) (by decide) (by decide) K) ?_
  show OwnG p e below s _ _ _ (T77.setTop (mkF m 70 _ []))
  refine own_by (fun _ K => XS.aloadN X77.here hx rfl (hb hby d3_70) rfl rfl K) ?_
  show OwnG p e below s _ _ _ (T77.setTop (mkF m 71 _ [(.ref ob)]))
  refine own_by (fun _ K => XS.iloadN X77.here hx rfl (hb hby d3_71) rfl K) ?_
  show OwnG p e below s _ _ _ (T77.setTop (mkF m 72 _ [(.int 3), (.ref ob)]))
  obtain ⟨T88, h88, X88, e88, W88, st88⟩ := putF X77 hx hZ hown (host := "") (Or.inl (own_w hw 25 rfl)) Via.refl e77 f84 f78 (Or.inl (own_w hw 26 rfl)) (own_w hw 4 rfl) (ty := .int) (by decide) rfl rfl (g := (mkF m 72 #[.val (.ref ob), .val (.int 3), .val (.int 0), .val (.int r18_0), .val (.double (FP.i2d (sv r18_0))), .second] [(.int 3), (.ref ob)])) rfl rfl (hb hby d3_72)
  refine own_by (fun _ K => st88 _ K) ?_
  have f89 := Exa.wr W88 f78
  have f90 := Keep.wr f79 W88 (Or.inl (by simp))
  have f91 := Fld.other W88 f80 (Or.inr (slot_ne (Or.inl (own_w hw 13 rfl)) (Or.inl (own_w hw 26 rfl)) (by decide) (t := (.array .double)) (t' := .int) (by decide) (by decide)))
  have f92 := Fld.other W88 f81 (Or.inr (slot_ne (Or.inl (own_w hw 15 rfl)) (Or.inl (own_w hw 26 rfl)) (by decide) (t := (.array .int)) (t' := .int) (by decide) (by decide)))
  have f93 := Fld.other W88 f82 (Or.inr (slot_ne (Or.inr (own_w hw 17 rfl)) (Or.inl (own_w hw 26 rfl)) (by decide) (t := .int) (t' := .int) (by decide) (by decide)))
  have f94 := Fld.other W88 f83 (Or.inr (slot_ne (Or.inr (own_w hw 19 rfl)) (Or.inl (own_w hw 26 rfl)) (by decide) (t := (.array .int)) (t' := .int) (by decide) (by decide)))
  have f96 := OwnA.other W88 f85 (Ne.symm Nn.2.2.2.2.1)
  have f97 := OwnA.other W88 A77 (Ne.symm Nn.2.2.2.1)
  have f98 := OwnA.other W88 f87 (Ne.symm Nn.2.2.2.2.2.1)
  have f99 := Fld.same W88 f84
  have N88 := Fr.snoc X88 N77 Nn.1
  have sz88 : n0 ≤ h88.size := by rw [W88.size]; exact sz77
  show OwnG p e below s _ _ _ (T88.setTop (mkF m 75 _ []))
  exact own_outV X88 hx hret hlk (hb hby d3_75) (by show _ ∧ _; rw [e88]; exact ⟨rfl, N88, f90, _, _, r61_0, r18_0, d0, ⟨f89, f91, f92, f93, f94, f99, f96, f97, f98⟩, ⟨t61_0.1, t61_0.2.1, t61_0.2.2⟩, ⟨rfl, rfl, t18_0.2.2⟩, ⟨((hH61 2 (by decide)).1.trans rfl), ((hH61 2 (by decide)).2.trans rfl), t0.2.2⟩, ⟨_, _, hD18, hD61, rfl, rfl⟩⟩) (by decide) (by decide)
theorem ef_3k4 (m : MethodId) (x0 : Addr) : entryFrame m #[(.ref x0)] 6 = mkF m 0 #[.val (.ref x0), .unset, .unset, .unset, .unset, .unset] [] := by first | (simp [entryFrame, mkF, argsToLocals, Value.category]; done) | rfl
def Q3k4 (Z : State) (sv pl : Int32 → Int32) (ob sa da pa : Addr) (fd fs fp : Nat → Value) (d0 d1 d2 d3 : Int32) (h0 : Heap) (n0 : Nat) (v : Option Value) (h : Heap) (L : List Loc) : Prop := v = none ∧ Fr n0 L ∧ Keep h0 h [ob, sa, da] ∧ ∃ fd' fs', ∃ r0 r1 r2 r3 : Int32, own_S Z h ob sa da pa (4 : Int32) fd' fs' fp ∧ own_at sv fd' fs' 0 r0 ∧ own_at sv fd' fs' 1 r1 ∧ own_at sv fd' fs' 2 r2 ∧ own_at sv fd' fs' 3 r3 ∧ own_R4 (own_K sv pl) d0 d1 d2 d3 r0 r1 r2 r3
set_option maxRecDepth 65536 in
set_option maxHeartbeats 40000000 in
theorem rm3k4 (l : Launch) (Z : State) (a0 : Array Value) (hw : ∀ d ∈ tables_1, d.before a0 Z = true) (ws : List Jvm.Cond) (sv pl : Int32 → Int32) (ob sa da pa : Addr) (fd fs fp : Nat → Value) (d0 d1 d2 d3 : Int32) (h0 : Heap) (n0 : Nat) (Z0 : n0 ≤ h0.size) (Sb : own_S Z h0 ob sa da pa (4 : Int32) fd fs fp) (Nn : own_N n0 ob sa da pa) (hP : own_P pl fp) (t0 : own_at sv fd fs 0 d0) (t1 : own_at sv fd fs 1 d1) (t2 : own_at sv fd fs 2 d2) (t3 : own_at sv fd fs 3 d3) :
    MetFree l (⟨"com/example/etsinta/etsinta/search/Best", "rank", "()V"⟩ : MethodName) (head1 (Jvm.Cond.code (⟨"com/example/etsinta/etsinta/search/Best", "rank", "()V"⟩ : MethodName) prog_26_method_5_code 6 none :: ws) ({ frames := 2, cells := 0, slots := 0, locals := 35 } : Room)) (fun aa_ U => aa_ = #[(.ref ob)] ∧ Z.Warmed39 U.vm ∧ U.heap = h0) (fun _ _ _ _ _ => True) (fun _ U o U' => ∃ v L, o = .returned v ∧ Q3k4 Z sv pl ob sa da pa fd fs fp d0 d1 d2 d3 h0 n0 v U'.heap L ∧ FrameEnd U o U' L ({ frames := 2, cells := 0, slots := 0, locals := 35 } : Room).cells ({ frames := 2, cells := 0, slots := 0, locals := 35 } : Room).slots) := by
  refine own_met (Q := fun v h L => Q3k4 Z sv pl ob sa da pa fd fs fp d0 d1 d2 d3 h0 n0 v h L) (plainFor_of_name pn_0) ?_
  intro p e s m below meth c s₁ hx hby hml hret hlk hown hnm hZ X0 e0
  have N0 := Fr.nil n0
  rw [ef_3k4 m ob]
  show OwnG p e below s _ _ _ (s₁.setTop (mkF m 0 #[.val (.ref ob), .unset, .unset, .unset, .unset, .unset] []))
  refine own_by (fun _ K => XS.aloadN X0.here hx rfl (hb hby d3_0) rfl rfl K) ?_
  show OwnG p e below s _ _ _ (s₁.setTop (mkF m 1 _ [(.ref ob)]))
  obtain ⟨T1, X1, e1, st1⟩ := getF X0 hx hZ hown (host := "") (Or.inl (own_w hw 25 rfl)) Via.refl e0 Sb.2.2.2.2.2.1 (g := (mkF m 1 #[.val (.ref ob), .unset, .unset, .unset, .unset, .unset] [(.ref ob)])) rfl rfl (hb hby d3_1)
  refine own_by (fun _ K => st1 _ K) ?_
  show OwnG p e below s _ _ _ (T1.setTop (mkF m 4 _ [(.int 4)]))
  refine own_by (fun _ K => XS.istoreN X1.here hx rfl (hb hby d3_4) rfl (l' := #[.val (.ref ob), .val (.int 4), .unset, .unset, .unset, .unset]) rfl K) ?_
  show OwnG p e below s _ _ _ (T1.setTop (mkF m 5 _ []))
  refine own_by (fun _ K => XS.iloadN X1.here hx rfl (hb hby d3_5) rfl K) ?_
  show OwnG p e below s _ _ _ (T1.setTop (mkF m 6 _ [(.int 4)]))
  refine own_by (fun _ K => XS.iconst X1.here hx rfl (hb hby d3_6) K) ?_
  show OwnG p e below s _ _ _ (T1.setTop (mkF m 7 _ [(.int 1), (.int 4)]))
  refine own_by (fun _ K => XS.isub X1.here hx rfl (hb hby d3_7) rfl K) ?_
  show OwnG p e below s _ _ _ (T1.setTop (mkF m 8 _ [(.int 3)]))
  refine own_by (fun _ K => XS.istoreN X1.here hx rfl (hb hby d3_8) rfl (l' := #[.val (.ref ob), .val (.int 4), .val (.int 3), .unset, .unset, .unset]) rfl K) ?_
  show OwnG p e below s _ _ _ (T1.setTop (mkF m 9 _ []))
  refine own_by (fun _ K => XS.iloadN X1.here hx rfl (hb hby d3_9) rfl K) ?_
  show OwnG p e below s _ _ _ (T1.setTop (mkF m 10 _ [(.int 3)]))
  refine own_by (fun _ K => XS.ifNo X1.here hx rfl (hb hby d3_10) rfl ((if0 _ _).trans (tlt (by decide)).2.2.2) K) ?_
  show OwnG p e below s _ _ _ (T1.setTop (mkF m 13 _ []))
  refine own_by (fun _ K => XS.aloadN X1.here hx rfl (hb hby d3_13) rfl rfl K) ?_
  show OwnG p e below s _ _ _ (T1.setTop (mkF m 14 _ [(.ref ob)]))
  obtain ⟨T2, X2, e2, st2⟩ := getF X1 hx hZ hown (host := "") (Or.inl (own_w hw 14 rfl)) Via.refl e1 Sb.2.2.1 (g := (mkF m 14 #[.val (.ref ob), .val (.int 4), .val (.int 3), .unset, .unset, .unset] [(.ref ob)])) rfl rfl (hb hby d3_14)
  refine own_by (fun _ K => st2 _ K) ?_
  show OwnG p e below s _ _ _ (T2.setTop (mkF m 17 _ [(.ref da)]))
  refine own_by (fun _ K => XS.iconst X2.here hx rfl (hb hby d3_17) K) ?_
  show OwnG p e below s _ _ _ (T2.setTop (mkF m 18 _ [(.int 0), (.ref da)]))
  refine own_by (fun _ K => own_ldI X2 hx hZ e2 Sb.2.2.2.2.2.2.1 (j := (0 : Int32)) (i := 0) ⟨by decide, rfl, by decide⟩ (v := (.int d0)) t0.1 (g := (mkF m 18 #[.val (.ref ob), .val (.int 4), .val (.int 3), .unset, .unset, .unset] [(.int 0), (.ref da)])) rfl rfl (hb hby d3_18) _ K) ?_
  show OwnG p e below s _ _ _ (T2.setTop (mkF m 19 _ [(.int d0)]))
  refine own_by (fun _ K => XS.istoreN X2.here hx rfl (hb hby d3_19) rfl (l' := #[.val (.ref ob), .val (.int 4), .val (.int 3), .val (.int d0), .unset, .unset]) rfl K) ?_
  show OwnG p e below s _ _ _ (T2.setTop (mkF m 20 _ []))
  refine own_by (fun _ K => XS.aloadN X2.here hx rfl (hb hby d3_20) rfl rfl K) ?_
  show OwnG p e below s _ _ _ (T2.setTop (mkF m 21 _ [(.ref ob)]))
  obtain ⟨T3, X3, e3, st3⟩ := getF X2 hx hZ hown (host := "") (Or.inl (own_w hw 12 rfl)) Via.refl e2 Sb.2.1 (g := (mkF m 21 #[.val (.ref ob), .val (.int 4), .val (.int 3), .val (.int d0), .unset, .unset] [(.ref ob)])) rfl rfl (hb hby d3_21)
  refine own_by (fun _ K => st3 _ K) ?_
  show OwnG p e below s _ _ _ (T3.setTop (mkF m 24 _ [(.ref sa)]))
  refine own_by (fun _ K => XS.iconst X3.here hx rfl (hb hby d3_24) K) ?_
  show OwnG p e below s _ _ _ (T3.setTop (mkF m 25 _ [(.int 0), (.ref sa)]))
  refine own_by (fun _ K => own_ldD X3 hx hZ e3 Sb.2.2.2.2.2.2.2.1 (j := (0 : Int32)) (i := 0) ⟨by decide, rfl, by decide⟩ (v := (.double (FP.i2d (sv d0)))) t0.2.1 (g := (mkF m 25 #[.val (.ref ob), .val (.int 4), .val (.int 3), .val (.int d0), .unset, .unset] [(.int 0), (.ref sa)])) rfl rfl (hb hby d3_25) _ K) ?_
  show OwnG p e below s _ _ _ (T3.setTop (mkF m 26 _ [(.double (FP.i2d (sv d0)))]))
  refine own_by (fun _ K => XS.dstore X3.here hx rfl (hb hby d3_26) rfl (l' := #[.val (.ref ob), .val (.int 4), .val (.int 3), .val (.int d0), .val (.double (FP.i2d (sv d0))), .second]) rfl K) ?_
  show OwnG p e below s _ _ _ (T3.setTop (mkF m 28 _ []))
  refine own_by (fun _ K => XS.aloadN X3.here hx rfl (hb hby d3_28) rfl rfl K) ?_
  show OwnG p e below s _ _ _ (T3.setTop (mkF m 29 _ [(.ref ob)]))
  refine own_by (fun _ K => XS.iloadN X3.here hx rfl (hb hby d3_29) rfl K) ?_
  show OwnG p e below s _ _ _ (T3.setTop (mkF m 30 _ [(.int 3), (.ref ob)]))
  obtain ⟨T4, h4, X4, e4, W4, st4⟩ := putF X3 hx hZ hown (host := "") (Or.inl (own_w hw 25 rfl)) Via.refl e3 Sb.2.2.2.2.2.1 Sb.1 (Or.inl (own_w hw 26 rfl)) (own_w hw 4 rfl) (ty := .int) (by decide) rfl rfl (g := (mkF m 30 #[.val (.ref ob), .val (.int 4), .val (.int 3), .val (.int d0), .val (.double (FP.i2d (sv d0))), .second] [(.int 3), (.ref ob)])) rfl rfl (hb hby d3_30)
  refine own_by (fun _ K => st4 _ K) ?_
  have f5 := Exa.wr W4 Sb.1
  have f6 := Fld.other W4 Sb.2.1 (Or.inr (slot_ne (Or.inl (own_w hw 13 rfl)) (Or.inl (own_w hw 26 rfl)) (by decide) (t := (.array .double)) (t' := .int) (by decide) (by decide)))
  have f7 := Fld.other W4 Sb.2.2.1 (Or.inr (slot_ne (Or.inl (own_w hw 15 rfl)) (Or.inl (own_w hw 26 rfl)) (by decide) (t := (.array .int)) (t' := .int) (by decide) (by decide)))
  have f8 := Fld.other W4 Sb.2.2.2.1 (Or.inr (slot_ne (Or.inr (own_w hw 17 rfl)) (Or.inl (own_w hw 26 rfl)) (by decide) (t := .int) (t' := .int) (by decide) (by decide)))
  have f9 := Fld.other W4 Sb.2.2.2.2.1 (Or.inr (slot_ne (Or.inr (own_w hw 19 rfl)) (Or.inl (own_w hw 26 rfl)) (by decide) (t := (.array .int)) (t' := .int) (by decide) (by decide)))
  have f11 := OwnA.other W4 Sb.2.2.2.2.2.2.1 (Ne.symm Nn.2.2.2.2.1)
  have f12 := OwnA.other W4 Sb.2.2.2.2.2.2.2.1 (Ne.symm Nn.2.2.2.1)
  have f13 := OwnA.other W4 Sb.2.2.2.2.2.2.2.2 (Ne.symm Nn.2.2.2.2.2.1)
  have f14 := Keep.wr (Keep.refl h0 [ob, sa, da]) W4 (Or.inl (by simp))
  have f15 := Fld.same W4 Sb.2.2.2.2.2.1
  have N4 := Fr.snoc X4 N0 Nn.1
  have sz4 : n0 ≤ h4.size := by rw [W4.size]; exact Z0
  show OwnG p e below s _ _ _ (T4.setTop (mkF m 33 _ []))
  refine own_by (fun _ K => XS.aloadN X4.here hx rfl (hb hby d3_33) rfl rfl K) ?_
  show OwnG p e below s _ _ _ (T4.setTop (mkF m 34 _ [(.ref ob)]))
  refine own_by (fun _ K => XS.aloadN X4.here hx rfl (hb hby d3_34) rfl rfl K) ?_
  show OwnG p e below s _ _ _ (T4.setTop (mkF m 35 _ [(.ref ob), (.ref ob)]))
  obtain ⟨T16, X16, e16, st16⟩ := getF X4 hx hZ hown (host := "") (Or.inl (own_w hw 14 rfl)) Via.refl e4 f7 (g := (mkF m 35 #[.val (.ref ob), .val (.int 4), .val (.int 3), .val (.int d0), .val (.double (FP.i2d (sv d0))), .second] [(.ref ob), (.ref ob)])) rfl rfl (hb hby d3_35)
  refine own_by (fun _ K => st16 _ K) ?_
  show OwnG p e below s _ _ _ (T16.setTop (mkF m 38 _ [(.ref da), (.ref ob)]))
  refine own_by (fun _ K => XS.iloadN X16.here hx rfl (hb hby d3_38) rfl K) ?_
  show OwnG p e below s _ _ _ (T16.setTop (mkF m 39 _ [(.int 3), (.ref da), (.ref ob)]))
  refine own_by (fun _ K => own_ldI X16 hx hZ e16 f11 (j := (3 : Int32)) (i := 3) ⟨by decide, rfl, by decide⟩ (v := (.int d3)) t3.1 (g := (mkF m 39 #[.val (.ref ob), .val (.int 4), .val (.int 3), .val (.int d0), .val (.double (FP.i2d (sv d0))), .second] [(.int 3), (.ref da), (.ref ob)])) rfl rfl (hb hby d3_39) _ K) ?_
  show OwnG p e below s _ _ _ (T16.setTop (mkF m 40 _ [(.int d3), (.ref ob)]))
  refine own_by (fun _ K => XS.aloadN X16.here hx rfl (hb hby d3_40) rfl rfl K) ?_
  show OwnG p e below s _ _ _ (T16.setTop (mkF m 41 _ [(.ref ob), (.int d3), (.ref ob)]))
  obtain ⟨T17, X17, e17, st17⟩ := getF X16 hx hZ hown (host := "") (Or.inl (own_w hw 12 rfl)) Via.refl e16 f6 (g := (mkF m 41 #[.val (.ref ob), .val (.int 4), .val (.int 3), .val (.int d0), .val (.double (FP.i2d (sv d0))), .second] [(.ref ob), (.int d3), (.ref ob)])) rfl rfl (hb hby d3_41)
  refine own_by (fun _ K => st17 _ K) ?_
  show OwnG p e below s _ _ _ (T17.setTop (mkF m 44 _ [(.ref sa), (.int d3), (.ref ob)]))
  refine own_by (fun _ K => XS.iloadN X17.here hx rfl (hb hby d3_44) rfl K) ?_
  show OwnG p e below s _ _ _ (T17.setTop (mkF m 45 _ [(.int 3), (.ref sa), (.int d3), (.ref ob)]))
  refine own_by (fun _ K => own_ldD X17 hx hZ e17 f12 (j := (3 : Int32)) (i := 3) ⟨by decide, rfl, by decide⟩ (v := (.double (FP.i2d (sv d3)))) t3.2.1 (g := (mkF m 45 #[.val (.ref ob), .val (.int 4), .val (.int 3), .val (.int d0), .val (.double (FP.i2d (sv d0))), .second] [(.int 3), (.ref sa), (.int d3), (.ref ob)])) rfl rfl (hb hby d3_45) _ K) ?_
  show OwnG p e below s _ _ _ (T17.setTop (mkF m 46 _ [(.double (FP.i2d (sv d3))), (.int d3), (.ref ob)]))
  obtain ⟨cq18, q18, q18'⟩ := Exa.cell f5
  obtain ⟨_, _, ⟨T18, L18, k18, n18⟩, -, X18, ⟨Lc18, hQ18, l18, y18, z18⟩, st18⟩ := X17.privateBack hx (y := (⟨"com/example/etsinta/etsinta/search/Best", "siftDown", "(ID)V"⟩ : MethodName)) hown (mvT hZ (own_w hw 73 rfl)) (mvT hZ (own_w hw 74 rfl)) (own_selp hZ (y := (⟨"com/example/etsinta/etsinta/search/Best", "siftDown", "(ID)V"⟩ : MethodName)) (own_w hw 4 rfl) (own_w hw 75 rfl) (own_w hw 74 rfl) (by decide)) (Cond.privateMethod_at (mvP hZ (own_w hw 75 rfl) (args := #[]))) (mvT hZ (own_w hw 76 rfl)) (by decide) (backOf (W := 0) (rm15d3 l Z a0 hw [] sv pl ob sa da pa fd fs fp d1 d2 d3 h4 n0 sz4 ⟨f5, f6, f7, f8, f9, f15, f11, f12, f13⟩ Nn hP ⟨t1.1, t1.2.1, t1.2.2⟩ ⟨t2.1, t2.2.1, t2.2.2⟩ t3.2.2) hZ (own_w hw 76 rfl) (own_w hw 5 rfl) (by decide) (by decide)) (g := (mkF m 46 #[.val (.ref ob), .val (.int 4), .val (.int 3), .val (.int d0), .val (.double (FP.i2d (sv d0))), .second] [(.double (FP.i2d (sv d3))), (.int d3), (.ref ob)])) rfl (by rw [hml]; rfl) (Steps.refl _) (a := ob) (by rw [e17]; exact q18) q18' (argsL := [(.int d3), (.double (FP.i2d (sv d3)))]) (rest := []) (lenOf pd_2 rfl) rfl (by show 2 * 0 + _ ≤ _; exact Nat.le_of_eq rfl) (hb hby d3_46) (fun _ _ => ⟨rfl, e17, (by decide : 0 + 0 ≤ _), (by decide : 0 + 0 ≤ _)⟩)
  dsimp only [Pt.U, Pt.locs, Pt.cells, Pt.slots] at X18 l18 y18 z18 st18 hQ18
  subst l18 y18 z18
  refine own_by (fun _ K => st18.trans K) ?_
  obtain ⟨rfl, N18q, K18, fd18, fs18, r18_0, r18_1, r18_2, S18, t18_0, t18_1, t18_2, hD18, hH18⟩ := hQ18
  have N18 := Fr.app N4 N18q
  have sz18 : n0 ≤ T18.heap.size := Nat.le_trans sz4 K18.1
  have f19 := Exa.keep f5 K18
  have f20 := Keep.trans f14 K18 (allS (Or.inl (by simp)) (allS (Or.inl (by simp)) all0))
  show OwnG p e below s _ _ _ (T18.setTop (mkF m 49 _ []))
  refine own_by (fun _ K => XS.aloadN X18.here hx rfl (hb hby d3_49) rfl rfl K) ?_
  show OwnG p e below s _ _ _ (T18.setTop (mkF m 50 _ [(.ref ob)]))
  obtain ⟨T21, X21, e21, st21⟩ := getF X18 hx hZ hown (host := "") (Or.inl (own_w hw 14 rfl)) Via.refl (rfl : T18.heap = T18.heap) S18.2.2.1 (g := (mkF m 50 #[.val (.ref ob), .val (.int 4), .val (.int 3), .val (.int d0), .val (.double (FP.i2d (sv d0))), .second] [(.ref ob)])) rfl rfl (hb hby d3_50)
  refine own_by (fun _ K => st21 _ K) ?_
  show OwnG p e below s _ _ _ (T21.setTop (mkF m 53 _ [(.ref da)]))
  refine own_by (fun _ K => XS.iloadN X21.here hx rfl (hb hby d3_53) rfl K) ?_
  show OwnG p e below s _ _ _ (T21.setTop (mkF m 54 _ [(.int 3), (.ref da)]))
  refine own_by (fun _ K => XS.iloadN X21.here hx rfl (hb hby d3_54) rfl K) ?_
  show OwnG p e below s _ _ _ (T21.setTop (mkF m 55 _ [(.int d0), (.int 3), (.ref da)]))
  obtain ⟨T22, h22, X22, e22, W22, A22, st22⟩ := own_stI X21 hx hZ e21 S18.2.2.2.2.2.2.1 (j := (3 : Int32)) (i := 3) ⟨by decide, rfl, by decide⟩ (g := (mkF m 55 #[.val (.ref ob), .val (.int 4), .val (.int 3), .val (.int d0), .val (.double (FP.i2d (sv d0))), .second] [(.int d0), (.int 3), (.ref da)])) rfl rfl (hb hby d3_55)
  refine own_by (fun _ K => st22 _ K) ?_
  have f23 := Exa.wr W22 S18.1
  have f24 := Keep.wr f20 W22 (Or.inl (by simp))
  have f25 := Fld.other W22 S18.2.1 (Or.inl Nn.2.2.2.2.1)
  have f26 := Fld.other W22 S18.2.2.1 (Or.inl Nn.2.2.2.2.1)
  have f27 := Fld.other W22 S18.2.2.2.1 (Or.inl Nn.2.2.2.2.1)
  have f28 := Fld.other W22 S18.2.2.2.2.1 (Or.inl Nn.2.2.2.2.1)
  have f29 := Fld.other W22 S18.2.2.2.2.2.1 (Or.inl Nn.2.2.2.2.1)
  have f31 := OwnA.other W22 S18.2.2.2.2.2.2.2.1 Nn.2.2.2.2.2.2.1
  have f32 := OwnA.other W22 S18.2.2.2.2.2.2.2.2 (Ne.symm Nn.2.2.2.2.2.2.2.2)
  have N22 := Fr.snoc X22 N18 Nn.2.2.1
  have sz22 : n0 ≤ h22.size := by rw [W22.size]; exact sz18
  show OwnG p e below s _ _ _ (T22.setTop (mkF m 56 _ []))
  refine own_by (fun _ K => XS.aloadN X22.here hx rfl (hb hby d3_56) rfl rfl K) ?_
  show OwnG p e below s _ _ _ (T22.setTop (mkF m 57 _ [(.ref ob)]))
  obtain ⟨T33, X33, e33, st33⟩ := getF X22 hx hZ hown (host := "") (Or.inl (own_w hw 12 rfl)) Via.refl e22 f25 (g := (mkF m 57 #[.val (.ref ob), .val (.int 4), .val (.int 3), .val (.int d0), .val (.double (FP.i2d (sv d0))), .second] [(.ref ob)])) rfl rfl (hb hby d3_57)
  refine own_by (fun _ K => st33 _ K) ?_
  show OwnG p e below s _ _ _ (T33.setTop (mkF m 60 _ [(.ref sa)]))
  refine own_by (fun _ K => XS.iloadN X33.here hx rfl (hb hby d3_60) rfl K) ?_
  show OwnG p e below s _ _ _ (T33.setTop (mkF m 61 _ [(.int 3), (.ref sa)]))
  refine own_by (fun _ K => XS.dload X33.here hx rfl (hb hby d3_61) rfl K) ?_
  show OwnG p e below s _ _ _ (T33.setTop (mkF m 63 _ [(.double (FP.i2d (sv d0))), (.int 3), (.ref sa)]))
  obtain ⟨T34, h34, X34, e34, W34, A34, st34⟩ := own_stD X33 hx hZ e33 f31 (j := (3 : Int32)) (i := 3) ⟨by decide, rfl, by decide⟩ (g := (mkF m 63 #[.val (.ref ob), .val (.int 4), .val (.int 3), .val (.int d0), .val (.double (FP.i2d (sv d0))), .second] [(.double (FP.i2d (sv d0))), (.int 3), (.ref sa)])) rfl rfl (hb hby d3_63)
  refine own_by (fun _ K => st34 _ K) ?_
  have f35 := Exa.wr W34 f23
  have f36 := Keep.wr f24 W34 (Or.inl (by simp))
  have f37 := Fld.other W34 f25 (Or.inl Nn.2.2.2.1)
  have f38 := Fld.other W34 f26 (Or.inl Nn.2.2.2.1)
  have f39 := Fld.other W34 f27 (Or.inl Nn.2.2.2.1)
  have f40 := Fld.other W34 f28 (Or.inl Nn.2.2.2.1)
  have f41 := Fld.other W34 f29 (Or.inl Nn.2.2.2.1)
  have f42 := OwnA.other W34 A22 (Ne.symm Nn.2.2.2.2.2.2.1)
  have f44 := OwnA.other W34 f32 (Ne.symm Nn.2.2.2.2.2.2.2.1)
  have N34 := Fr.snoc X34 N22 Nn.2.1
  have sz34 : n0 ≤ h34.size := by rw [W34.size]; exact sz22
  show OwnG p e below s _ _ _ (T34.setTop (mkF m 64 _ []))
  refine own_by (fun _ K => XS.iinc X34.here hx rfl (hb hby d3_64) rfl (l' := #[.val (.ref ob), .val (.int 4), .val (.int 2), .val (.int d0), .val (.double (FP.i2d (sv d0))), .second]) rfl K) ?_
  show OwnG p e below s _ _ _ (T34.setTop (mkF m 67 _ []))
  refine own_by (fun _ K => XS.goto X34.here hx rfl (pc0 := 67) (pc' := 9) rfl (hb hby d3_67) (by decide) (by decide) K) ?_
  show OwnG p e below s _ _ _ (T34.setTop (mkF m 9 _ []))
  refine own_by (fun _ K => XS.iloadN X34.here hx rfl (hb hby d3_9) rfl K) ?_
  show OwnG p e below s _ _ _ (T34.setTop (mkF m 10 _ [(.int 2)]))
  refine own_by (fun _ K => XS.ifNo X34.here hx rfl (hb hby d3_10) rfl ((if0 _ _).trans (tlt (by decide)).2.2.2) K) ?_
  show OwnG p e below s _ _ _ (T34.setTop (mkF m 13 _ []))
  refine own_by (fun _ K => XS.aloadN X34.here hx rfl (hb hby d3_13) rfl rfl K) ?_
  show OwnG p e below s _ _ _ (T34.setTop (mkF m 14 _ [(.ref ob)]))
  obtain ⟨T45, X45, e45, st45⟩ := getF X34 hx hZ hown (host := "") (Or.inl (own_w hw 14 rfl)) Via.refl e34 f38 (g := (mkF m 14 #[.val (.ref ob), .val (.int 4), .val (.int 2), .val (.int d0), .val (.double (FP.i2d (sv d0))), .second] [(.ref ob)])) rfl rfl (hb hby d3_14)
  refine own_by (fun _ K => st45 _ K) ?_
  show OwnG p e below s _ _ _ (T45.setTop (mkF m 17 _ [(.ref da)]))
  refine own_by (fun _ K => XS.iconst X45.here hx rfl (hb hby d3_17) K) ?_
  show OwnG p e below s _ _ _ (T45.setTop (mkF m 18 _ [(.int 0), (.ref da)]))
  refine own_by (fun _ K => own_ldI X45 hx hZ e45 f42 (j := (0 : Int32)) (i := 0) ⟨by decide, rfl, by decide⟩ (v := (.int r18_0)) t18_0.1 (g := (mkF m 18 #[.val (.ref ob), .val (.int 4), .val (.int 2), .val (.int d0), .val (.double (FP.i2d (sv d0))), .second] [(.int 0), (.ref da)])) rfl rfl (hb hby d3_18) _ K) ?_
  show OwnG p e below s _ _ _ (T45.setTop (mkF m 19 _ [(.int r18_0)]))
  refine own_by (fun _ K => XS.istoreN X45.here hx rfl (hb hby d3_19) rfl (l' := #[.val (.ref ob), .val (.int 4), .val (.int 2), .val (.int r18_0), .val (.double (FP.i2d (sv d0))), .second]) rfl K) ?_
  show OwnG p e below s _ _ _ (T45.setTop (mkF m 20 _ []))
  refine own_by (fun _ K => XS.aloadN X45.here hx rfl (hb hby d3_20) rfl rfl K) ?_
  show OwnG p e below s _ _ _ (T45.setTop (mkF m 21 _ [(.ref ob)]))
  obtain ⟨T46, X46, e46, st46⟩ := getF X45 hx hZ hown (host := "") (Or.inl (own_w hw 12 rfl)) Via.refl e45 f37 (g := (mkF m 21 #[.val (.ref ob), .val (.int 4), .val (.int 2), .val (.int r18_0), .val (.double (FP.i2d (sv d0))), .second] [(.ref ob)])) rfl rfl (hb hby d3_21)
  refine own_by (fun _ K => st46 _ K) ?_
  show OwnG p e below s _ _ _ (T46.setTop (mkF m 24 _ [(.ref sa)]))
  refine own_by (fun _ K => XS.iconst X46.here hx rfl (hb hby d3_24) K) ?_
  show OwnG p e below s _ _ _ (T46.setTop (mkF m 25 _ [(.int 0), (.ref sa)]))
  refine own_by (fun _ K => own_ldD X46 hx hZ e46 A34 (j := (0 : Int32)) (i := 0) ⟨by decide, rfl, by decide⟩ (v := (.double (FP.i2d (sv r18_0)))) t18_0.2.1 (g := (mkF m 25 #[.val (.ref ob), .val (.int 4), .val (.int 2), .val (.int r18_0), .val (.double (FP.i2d (sv d0))), .second] [(.int 0), (.ref sa)])) rfl rfl (hb hby d3_25) _ K) ?_
  show OwnG p e below s _ _ _ (T46.setTop (mkF m 26 _ [(.double (FP.i2d (sv r18_0)))]))
  refine own_by (fun _ K => XS.dstore X46.here hx rfl (hb hby d3_26) rfl (l' := #[.val (.ref ob), .val (.int 4), .val (.int 2), .val (.int r18_0), .val (.double (FP.i2d (sv r18_0))), .second]) rfl K) ?_
  show OwnG p e below s _ _ _ (T46.setTop (mkF m 28 _ []))
  refine own_by (fun _ K => XS.aloadN X46.here hx rfl (hb hby d3_28) rfl rfl K) ?_
  show OwnG p e below s _ _ _ (T46.setTop (mkF m 29 _ [(.ref ob)]))
  refine own_by (fun _ K => XS.iloadN X46.here hx rfl (hb hby d3_29) rfl K) ?_
  show OwnG p e below s _ _ _ (T46.setTop (mkF m 30 _ [(.int 2), (.ref ob)]))
  obtain ⟨T47, h47, X47, e47, W47, st47⟩ := putF X46 hx hZ hown (host := "") (Or.inl (own_w hw 25 rfl)) Via.refl e46 f41 f35 (Or.inl (own_w hw 26 rfl)) (own_w hw 4 rfl) (ty := .int) (by decide) rfl rfl (g := (mkF m 30 #[.val (.ref ob), .val (.int 4), .val (.int 2), .val (.int r18_0), .val (.double (FP.i2d (sv r18_0))), .second] [(.int 2), (.ref ob)])) rfl rfl (hb hby d3_30)
  refine own_by (fun _ K => st47 _ K) ?_
  have f48 := Exa.wr W47 f35
  have f49 := Keep.wr f36 W47 (Or.inl (by simp))
  have f50 := Fld.other W47 f37 (Or.inr (slot_ne (Or.inl (own_w hw 13 rfl)) (Or.inl (own_w hw 26 rfl)) (by decide) (t := (.array .double)) (t' := .int) (by decide) (by decide)))
  have f51 := Fld.other W47 f38 (Or.inr (slot_ne (Or.inl (own_w hw 15 rfl)) (Or.inl (own_w hw 26 rfl)) (by decide) (t := (.array .int)) (t' := .int) (by decide) (by decide)))
  have f52 := Fld.other W47 f39 (Or.inr (slot_ne (Or.inr (own_w hw 17 rfl)) (Or.inl (own_w hw 26 rfl)) (by decide) (t := .int) (t' := .int) (by decide) (by decide)))
  have f53 := Fld.other W47 f40 (Or.inr (slot_ne (Or.inr (own_w hw 19 rfl)) (Or.inl (own_w hw 26 rfl)) (by decide) (t := (.array .int)) (t' := .int) (by decide) (by decide)))
  have f55 := OwnA.other W47 f42 (Ne.symm Nn.2.2.2.2.1)
  have f56 := OwnA.other W47 A34 (Ne.symm Nn.2.2.2.1)
  have f57 := OwnA.other W47 f44 (Ne.symm Nn.2.2.2.2.2.1)
  have f58 := Fld.same W47 f41
  have N47 := Fr.snoc X47 N34 Nn.1
  have sz47 : n0 ≤ h47.size := by rw [W47.size]; exact sz34
  show OwnG p e below s _ _ _ (T47.setTop (mkF m 33 _ []))
  refine own_by (fun _ K => XS.aloadN X47.here hx rfl (hb hby d3_33) rfl rfl K) ?_
  show OwnG p e below s _ _ _ (T47.setTop (mkF m 34 _ [(.ref ob)]))
  refine own_by (fun _ K => XS.aloadN X47.here hx rfl (hb hby d3_34) rfl rfl K) ?_
  show OwnG p e below s _ _ _ (T47.setTop (mkF m 35 _ [(.ref ob), (.ref ob)]))
  obtain ⟨T59, X59, e59, st59⟩ := getF X47 hx hZ hown (host := "") (Or.inl (own_w hw 14 rfl)) Via.refl e47 f51 (g := (mkF m 35 #[.val (.ref ob), .val (.int 4), .val (.int 2), .val (.int r18_0), .val (.double (FP.i2d (sv r18_0))), .second] [(.ref ob), (.ref ob)])) rfl rfl (hb hby d3_35)
  refine own_by (fun _ K => st59 _ K) ?_
  show OwnG p e below s _ _ _ (T59.setTop (mkF m 38 _ [(.ref da), (.ref ob)]))
  refine own_by (fun _ K => XS.iloadN X59.here hx rfl (hb hby d3_38) rfl K) ?_
  show OwnG p e below s _ _ _ (T59.setTop (mkF m 39 _ [(.int 2), (.ref da), (.ref ob)]))
  refine own_by (fun _ K => own_ldI X59 hx hZ e59 f55 (j := (2 : Int32)) (i := 2) ⟨by decide, rfl, by decide⟩ (v := (.int r18_2)) t18_2.1 (g := (mkF m 39 #[.val (.ref ob), .val (.int 4), .val (.int 2), .val (.int r18_0), .val (.double (FP.i2d (sv r18_0))), .second] [(.int 2), (.ref da), (.ref ob)])) rfl rfl (hb hby d3_39) _ K) ?_
  show OwnG p e below s _ _ _ (T59.setTop (mkF m 40 _ [(.int r18_2), (.ref ob)]))
  refine own_by (fun _ K => XS.aloadN X59.here hx rfl (hb hby d3_40) rfl rfl K) ?_
  show OwnG p e below s _ _ _ (T59.setTop (mkF m 41 _ [(.ref ob), (.int r18_2), (.ref ob)]))
  obtain ⟨T60, X60, e60, st60⟩ := getF X59 hx hZ hown (host := "") (Or.inl (own_w hw 12 rfl)) Via.refl e59 f50 (g := (mkF m 41 #[.val (.ref ob), .val (.int 4), .val (.int 2), .val (.int r18_0), .val (.double (FP.i2d (sv r18_0))), .second] [(.ref ob), (.int r18_2), (.ref ob)])) rfl rfl (hb hby d3_41)
  refine own_by (fun _ K => st60 _ K) ?_
  show OwnG p e below s _ _ _ (T60.setTop (mkF m 44 _ [(.ref sa), (.int r18_2), (.ref ob)]))
  refine own_by (fun _ K => XS.iloadN X60.here hx rfl (hb hby d3_44) rfl K) ?_
  show OwnG p e below s _ _ _ (T60.setTop (mkF m 45 _ [(.int 2), (.ref sa), (.int r18_2), (.ref ob)]))
  refine own_by (fun _ K => own_ldD X60 hx hZ e60 f56 (j := (2 : Int32)) (i := 2) ⟨by decide, rfl, by decide⟩ (v := (.double (FP.i2d (sv r18_2)))) t18_2.2.1 (g := (mkF m 45 #[.val (.ref ob), .val (.int 4), .val (.int 2), .val (.int r18_0), .val (.double (FP.i2d (sv r18_0))), .second] [(.int 2), (.ref sa), (.int r18_2), (.ref ob)])) rfl rfl (hb hby d3_45) _ K) ?_
  show OwnG p e below s _ _ _ (T60.setTop (mkF m 46 _ [(.double (FP.i2d (sv r18_2))), (.int r18_2), (.ref ob)]))
  obtain ⟨cq61, q61, q61'⟩ := Exa.cell f48
  obtain ⟨_, _, ⟨T61, L61, k61, n61⟩, -, X61, ⟨Lc61, hQ61, l61, y61, z61⟩, st61⟩ := X60.privateBack hx (y := (⟨"com/example/etsinta/etsinta/search/Best", "siftDown", "(ID)V"⟩ : MethodName)) hown (mvT hZ (own_w hw 73 rfl)) (mvT hZ (own_w hw 74 rfl)) (own_selp hZ (y := (⟨"com/example/etsinta/etsinta/search/Best", "siftDown", "(ID)V"⟩ : MethodName)) (own_w hw 4 rfl) (own_w hw 75 rfl) (own_w hw 74 rfl) (by decide)) (Cond.privateMethod_at (mvP hZ (own_w hw 75 rfl) (args := #[]))) (mvT hZ (own_w hw 76 rfl)) (by decide) (backOf (W := 0) (rm15d2 l Z a0 hw [] sv pl ob sa da pa (ownSet fd18 3 (.int d0)) (ownSet fs18 3 (.double (FP.i2d (sv d0)))) fp r18_1 r18_2 h47 n0 sz47 ⟨f48, f50, f51, f52, f53, f58, f55, f56, f57⟩ Nn hP ⟨t18_1.1, t18_1.2.1, t18_1.2.2⟩ t18_2.2.2) hZ (own_w hw 76 rfl) (own_w hw 5 rfl) (by decide) (by decide)) (g := (mkF m 46 #[.val (.ref ob), .val (.int 4), .val (.int 2), .val (.int r18_0), .val (.double (FP.i2d (sv r18_0))), .second] [(.double (FP.i2d (sv r18_2))), (.int r18_2), (.ref ob)])) rfl (by rw [hml]; rfl) (Steps.refl _) (a := ob) (by rw [e60]; exact q61) q61' (argsL := [(.int r18_2), (.double (FP.i2d (sv r18_2)))]) (rest := []) (lenOf pd_2 rfl) rfl (by show 2 * 0 + _ ≤ _; exact Nat.le_of_eq rfl) (hb hby d3_46) (fun _ _ => ⟨rfl, e60, (by decide : 0 + 0 ≤ _), (by decide : 0 + 0 ≤ _)⟩)
  dsimp only [Pt.U, Pt.locs, Pt.cells, Pt.slots] at X61 l61 y61 z61 st61 hQ61
  subst l61 y61 z61
  refine own_by (fun _ K => st61.trans K) ?_
  obtain ⟨rfl, N61q, K61, fd61, fs61, r61_0, r61_1, S61, t61_0, t61_1, hD61, hH61⟩ := hQ61
  have N61 := Fr.app N47 N61q
  have sz61 : n0 ≤ T61.heap.size := Nat.le_trans sz47 K61.1
  have f62 := Exa.keep f48 K61
  have f63 := Keep.trans f49 K61 (allS (Or.inl (by simp)) (allS (Or.inl (by simp)) all0))
  show OwnG p e below s _ _ _ (T61.setTop (mkF m 49 _ []))
  refine own_by (fun _ K => XS.aloadN X61.here hx rfl (hb hby d3_49) rfl rfl K) ?_
  show OwnG p e below s _ _ _ (T61.setTop (mkF m 50 _ [(.ref ob)]))
  obtain ⟨T64, X64, e64, st64⟩ := getF X61 hx hZ hown (host := "") (Or.inl (own_w hw 14 rfl)) Via.refl (rfl : T61.heap = T61.heap) S61.2.2.1 (g := (mkF m 50 #[.val (.ref ob), .val (.int 4), .val (.int 2), .val (.int r18_0), .val (.double (FP.i2d (sv r18_0))), .second] [(.ref ob)])) rfl rfl (hb hby d3_50)
  refine own_by (fun _ K => st64 _ K) ?_
  show OwnG p e below s _ _ _ (T64.setTop (mkF m 53 _ [(.ref da)]))
  refine own_by (fun _ K => XS.iloadN X64.here hx rfl (hb hby d3_53) rfl K) ?_
  show OwnG p e below s _ _ _ (T64.setTop (mkF m 54 _ [(.int 2), (.ref da)]))
  refine own_by (fun _ K => XS.iloadN X64.here hx rfl (hb hby d3_54) rfl K) ?_
  show OwnG p e below s _ _ _ (T64.setTop (mkF m 55 _ [(.int r18_0), (.int 2), (.ref da)]))
  obtain ⟨T65, h65, X65, e65, W65, A65, st65⟩ := own_stI X64 hx hZ e64 S61.2.2.2.2.2.2.1 (j := (2 : Int32)) (i := 2) ⟨by decide, rfl, by decide⟩ (g := (mkF m 55 #[.val (.ref ob), .val (.int 4), .val (.int 2), .val (.int r18_0), .val (.double (FP.i2d (sv r18_0))), .second] [(.int r18_0), (.int 2), (.ref da)])) rfl rfl (hb hby d3_55)
  refine own_by (fun _ K => st65 _ K) ?_
  have f66 := Exa.wr W65 S61.1
  have f67 := Keep.wr f63 W65 (Or.inl (by simp))
  have f68 := Fld.other W65 S61.2.1 (Or.inl Nn.2.2.2.2.1)
  have f69 := Fld.other W65 S61.2.2.1 (Or.inl Nn.2.2.2.2.1)
  have f70 := Fld.other W65 S61.2.2.2.1 (Or.inl Nn.2.2.2.2.1)
  have f71 := Fld.other W65 S61.2.2.2.2.1 (Or.inl Nn.2.2.2.2.1)
  have f72 := Fld.other W65 S61.2.2.2.2.2.1 (Or.inl Nn.2.2.2.2.1)
  have f74 := OwnA.other W65 S61.2.2.2.2.2.2.2.1 Nn.2.2.2.2.2.2.1
  have f75 := OwnA.other W65 S61.2.2.2.2.2.2.2.2 (Ne.symm Nn.2.2.2.2.2.2.2.2)
  have N65 := Fr.snoc X65 N61 Nn.2.2.1
  have sz65 : n0 ≤ h65.size := by rw [W65.size]; exact sz61
  show OwnG p e below s _ _ _ (T65.setTop (mkF m 56 _ []))
  refine own_by (fun _ K => XS.aloadN X65.here hx rfl (hb hby d3_56) rfl rfl K) ?_
  show OwnG p e below s _ _ _ (T65.setTop (mkF m 57 _ [(.ref ob)]))
  obtain ⟨T76, X76, e76, st76⟩ := getF X65 hx hZ hown (host := "") (Or.inl (own_w hw 12 rfl)) Via.refl e65 f68 (g := (mkF m 57 #[.val (.ref ob), .val (.int 4), .val (.int 2), .val (.int r18_0), .val (.double (FP.i2d (sv r18_0))), .second] [(.ref ob)])) rfl rfl (hb hby d3_57)
  refine own_by (fun _ K => st76 _ K) ?_
  show OwnG p e below s _ _ _ (T76.setTop (mkF m 60 _ [(.ref sa)]))
  refine own_by (fun _ K => XS.iloadN X76.here hx rfl (hb hby d3_60) rfl K) ?_
  show OwnG p e below s _ _ _ (T76.setTop (mkF m 61 _ [(.int 2), (.ref sa)]))
  refine own_by (fun _ K => XS.dload X76.here hx rfl (hb hby d3_61) rfl K) ?_
  show OwnG p e below s _ _ _ (T76.setTop (mkF m 63 _ [(.double (FP.i2d (sv r18_0))), (.int 2), (.ref sa)]))
  obtain ⟨T77, h77, X77, e77, W77, A77, st77⟩ := own_stD X76 hx hZ e76 f74 (j := (2 : Int32)) (i := 2) ⟨by decide, rfl, by decide⟩ (g := (mkF m 63 #[.val (.ref ob), .val (.int 4), .val (.int 2), .val (.int r18_0), .val (.double (FP.i2d (sv r18_0))), .second] [(.double (FP.i2d (sv r18_0))), (.int 2), (.ref sa)])) rfl rfl (hb hby d3_63)
  refine own_by (fun _ K => st77 _ K) ?_
  have f78 := Exa.wr W77 f66
  have f79 := Keep.wr f67 W77 (Or.inl (by simp))
  have f80 := Fld.other W77 f68 (Or.inl Nn.2.2.2.1)
  have f81 := Fld.other W77 f69 (Or.inl Nn.2.2.2.1)
  have f82 := Fld.other W77 f70 (Or.inl Nn.2.2.2.1)
  have f83 := Fld.other W77 f71 (Or.inl Nn.2.2.2.1)
  have f84 := Fld.other W77 f72 (Or.inl Nn.2.2.2.1)
  have f85 := OwnA.other W77 A65 (Ne.symm Nn.2.2.2.2.2.2.1)
  have f87 := OwnA.other W77 f75 (Ne.symm Nn.2.2.2.2.2.2.2.1)
  have N77 := Fr.snoc X77 N65 Nn.2.1
  have sz77 : n0 ≤ h77.size := by rw [W77.size]; exact sz65
  show OwnG p e below s _ _ _ (T77.setTop (mkF m 64 _ []))
  refine own_by (fun _ K => XS.iinc X77.here hx rfl (hb hby d3_64) rfl (l' := #[.val (.ref ob), .val (.int 4), .val (.int 1), .val (.int r18_0), .val (.double (FP.i2d (sv r18_0))), .second]) rfl K) ?_
  show OwnG p e below s _ _ _ (T77.setTop (mkF m 67 _ []))
  refine own_by (fun _ K => XS.goto X77.here hx rfl (pc0 := 67) (pc' := 9) rfl (hb hby d3_67) (by decide) (by decide) K) ?_
  show OwnG p e below s _ _ _ (T77.setTop (mkF m 9 _ []))
  refine own_by (fun _ K => XS.iloadN X77.here hx rfl (hb hby d3_9) rfl K) ?_
  show OwnG p e below s _ _ _ (T77.setTop (mkF m 10 _ [(.int 1)]))
  refine own_by (fun _ K => XS.ifNo X77.here hx rfl (hb hby d3_10) rfl ((if0 _ _).trans (tlt (by decide)).2.2.2) K) ?_
  show OwnG p e below s _ _ _ (T77.setTop (mkF m 13 _ []))
  refine own_by (fun _ K => XS.aloadN X77.here hx rfl (hb hby d3_13) rfl rfl K) ?_
  show OwnG p e below s _ _ _ (T77.setTop (mkF m 14 _ [(.ref ob)]))
  obtain ⟨T88, X88, e88, st88⟩ := getF X77 hx hZ hown (host := "") (Or.inl (own_w hw 14 rfl)) Via.refl e77 f81 (g := (mkF m 14 #[.val (.ref ob), .val (.int 4), .val (.int 1), .val (.int r18_0), .val (.double (FP.i2d (sv r18_0))), .second] [(.ref ob)])) rfl rfl (hb hby d3_14)
  refine own_by (fun _ K => st88 _ K) ?_
  show OwnG p e below s _ _ _ (T88.setTop (mkF m 17 _ [(.ref da)]))
  refine own_by (fun _ K => XS.iconst X88.here hx rfl (hb hby d3_17) K) ?_
  show OwnG p e below s _ _ _ (T88.setTop (mkF m 18 _ [(.int 0), (.ref da)]))
  refine own_by (fun _ K => own_ldI X88 hx hZ e88 f85 (j := (0 : Int32)) (i := 0) ⟨by decide, rfl, by decide⟩ (v := (.int r61_0)) t61_0.1 (g := (mkF m 18 #[.val (.ref ob), .val (.int 4), .val (.int 1), .val (.int r18_0), .val (.double (FP.i2d (sv r18_0))), .second] [(.int 0), (.ref da)])) rfl rfl (hb hby d3_18) _ K) ?_
  show OwnG p e below s _ _ _ (T88.setTop (mkF m 19 _ [(.int r61_0)]))
  refine own_by (fun _ K => XS.istoreN X88.here hx rfl (hb hby d3_19) rfl (l' := #[.val (.ref ob), .val (.int 4), .val (.int 1), .val (.int r61_0), .val (.double (FP.i2d (sv r18_0))), .second]) rfl K) ?_
  show OwnG p e below s _ _ _ (T88.setTop (mkF m 20 _ []))
  refine own_by (fun _ K => XS.aloadN X88.here hx rfl (hb hby d3_20) rfl rfl K) ?_
  show OwnG p e below s _ _ _ (T88.setTop (mkF m 21 _ [(.ref ob)]))
  obtain ⟨T89, X89, e89, st89⟩ := getF X88 hx hZ hown (host := "") (Or.inl (own_w hw 12 rfl)) Via.refl e88 f80 (g := (mkF m 21 #[.val (.ref ob), .val (.int 4), .val (.int 1), .val (.int r61_0), .val (.double (FP.i2d (sv r18_0))), .second] [(.ref ob)])) rfl rfl (hb hby d3_21)
  refine own_by (fun _ K => st89 _ K) ?_
  show OwnG p e below s _ _ _ (T89.setTop (mkF m 24 _ [(.ref sa)]))
  refine own_by (fun _ K => XS.iconst X89.here hx rfl (hb hby d3_24) K) ?_
  show OwnG p e below s _ _ _ (T89.setTop (mkF m 25 _ [(.int 0), (.ref sa)]))
  refine own_by (fun _ K => own_ldD X89 hx hZ e89 A77 (j := (0 : Int32)) (i := 0) ⟨by decide, rfl, by decide⟩ (v := (.double (FP.i2d (sv r61_0)))) t61_0.2.1 (g := (mkF m 25 #[.val (.ref ob), .val (.int 4), .val (.int 1), .val (.int r61_0), .val (.double (FP.i2d (sv r18_0))), .second] [(.int 0), (.ref sa)])) rfl rfl (hb hby d3_25) _ K) ?_
  show OwnG p e below s _ _ _ (T89.setTop (mkF m 26 _ [(.double (FP.i2d (sv r61_0)))]))
  refine own_by (fun _ K => XS.dstore X89.here hx rfl (hb hby d3_26) rfl (l' := #[.val (.ref ob), .val (.int 4), .val (.int 1), .val (.int r61_0), .val (.double (FP.i2d (sv r61_0))), .second]) rfl K) ?_
  show OwnG p e below s _ _ _ (T89.setTop (mkF m 28 _ []))
  refine own_by (fun _ K => XS.aloadN X89.here hx rfl (hb hby d3_28) rfl rfl K) ?_
  show OwnG p e below s _ _ _ (T89.setTop (mkF m 29 _ [(.ref ob)]))
  refine own_by (fun _ K => XS.iloadN X89.here hx rfl (hb hby d3_29) rfl K) ?_
  show OwnG p e below s _ _ _ (T89.setTop (mkF m 30 _ [(.int 1), (.ref ob)]))
  obtain ⟨T90, h90, X90, e90, W90, st90⟩ := putF X89 hx hZ hown (host := "") (Or.inl (own_w hw 25 rfl)) Via.refl e89 f84 f78 (Or.inl (own_w hw 26 rfl)) (own_w hw 4 rfl) (ty := .int) (by decide) rfl rfl (g := (mkF m 30 #[.val (.ref ob), .val (.int 4), .val (.int 1), .val (.int r61_0), .val (.double (FP.i2d (sv r61_0))), .second] [(.int 1), (.ref ob)])) rfl rfl (hb hby d3_30)
  refine own_by (fun _ K => st90 _ K) ?_
  have f91 := Exa.wr W90 f78
  have f92 := Keep.wr f79 W90 (Or.inl (by simp))
  have f93 := Fld.other W90 f80 (Or.inr (slot_ne (Or.inl (own_w hw 13 rfl)) (Or.inl (own_w hw 26 rfl)) (by decide) (t := (.array .double)) (t' := .int) (by decide) (by decide)))
  have f94 := Fld.other W90 f81 (Or.inr (slot_ne (Or.inl (own_w hw 15 rfl)) (Or.inl (own_w hw 26 rfl)) (by decide) (t := (.array .int)) (t' := .int) (by decide) (by decide)))
  have f95 := Fld.other W90 f82 (Or.inr (slot_ne (Or.inr (own_w hw 17 rfl)) (Or.inl (own_w hw 26 rfl)) (by decide) (t := .int) (t' := .int) (by decide) (by decide)))
  have f96 := Fld.other W90 f83 (Or.inr (slot_ne (Or.inr (own_w hw 19 rfl)) (Or.inl (own_w hw 26 rfl)) (by decide) (t := (.array .int)) (t' := .int) (by decide) (by decide)))
  have f98 := OwnA.other W90 f85 (Ne.symm Nn.2.2.2.2.1)
  have f99 := OwnA.other W90 A77 (Ne.symm Nn.2.2.2.1)
  have f100 := OwnA.other W90 f87 (Ne.symm Nn.2.2.2.2.2.1)
  have f101 := Fld.same W90 f84
  have N90 := Fr.snoc X90 N77 Nn.1
  have sz90 : n0 ≤ h90.size := by rw [W90.size]; exact sz77
  show OwnG p e below s _ _ _ (T90.setTop (mkF m 33 _ []))
  refine own_by (fun _ K => XS.aloadN X90.here hx rfl (hb hby d3_33) rfl rfl K) ?_
  show OwnG p e below s _ _ _ (T90.setTop (mkF m 34 _ [(.ref ob)]))
  refine own_by (fun _ K => XS.aloadN X90.here hx rfl (hb hby d3_34) rfl rfl K) ?_
  show OwnG p e below s _ _ _ (T90.setTop (mkF m 35 _ [(.ref ob), (.ref ob)]))
  obtain ⟨T102, X102, e102, st102⟩ := getF X90 hx hZ hown (host := "") (Or.inl (own_w hw 14 rfl)) Via.refl e90 f94 (g := (mkF m 35 #[.val (.ref ob), .val (.int 4), .val (.int 1), .val (.int r61_0), .val (.double (FP.i2d (sv r61_0))), .second] [(.ref ob), (.ref ob)])) rfl rfl (hb hby d3_35)
  refine own_by (fun _ K => st102 _ K) ?_
  show OwnG p e below s _ _ _ (T102.setTop (mkF m 38 _ [(.ref da), (.ref ob)]))
  refine own_by (fun _ K => XS.iloadN X102.here hx rfl (hb hby d3_38) rfl K) ?_
  show OwnG p e below s _ _ _ (T102.setTop (mkF m 39 _ [(.int 1), (.ref da), (.ref ob)]))
  refine own_by (fun _ K => own_ldI X102 hx hZ e102 f98 (j := (1 : Int32)) (i := 1) ⟨by decide, rfl, by decide⟩ (v := (.int r61_1)) t61_1.1 (g := (mkF m 39 #[.val (.ref ob), .val (.int 4), .val (.int 1), .val (.int r61_0), .val (.double (FP.i2d (sv r61_0))), .second] [(.int 1), (.ref da), (.ref ob)])) rfl rfl (hb hby d3_39) _ K) ?_
  show OwnG p e below s _ _ _ (T102.setTop (mkF m 40 _ [(.int r61_1), (.ref ob)]))
  refine own_by (fun _ K => XS.aloadN X102.here hx rfl (hb hby d3_40) rfl rfl K) ?_
  show OwnG p e below s _ _ _ (T102.setTop (mkF m 41 _ [(.ref ob), (.int r61_1), (.ref ob)]))
  obtain ⟨T103, X103, e103, st103⟩ := getF X102 hx hZ hown (host := "") (Or.inl (own_w hw 12 rfl)) Via.refl e102 f93 (g := (mkF m 41 #[.val (.ref ob), .val (.int 4), .val (.int 1), .val (.int r61_0), .val (.double (FP.i2d (sv r61_0))), .second] [(.ref ob), (.int r61_1), (.ref ob)])) rfl rfl (hb hby d3_41)
  refine own_by (fun _ K => st103 _ K) ?_
  show OwnG p e below s _ _ _ (T103.setTop (mkF m 44 _ [(.ref sa), (.int r61_1), (.ref ob)]))
  refine own_by (fun _ K => XS.iloadN X103.here hx rfl (hb hby d3_44) rfl K) ?_
  show OwnG p e below s _ _ _ (T103.setTop (mkF m 45 _ [(.int 1), (.ref sa), (.int r61_1), (.ref ob)]))
  refine own_by (fun _ K => own_ldD X103 hx hZ e103 f99 (j := (1 : Int32)) (i := 1) ⟨by decide, rfl, by decide⟩ (v := (.double (FP.i2d (sv r61_1)))) t61_1.2.1 (g := (mkF m 45 #[.val (.ref ob), .val (.int 4), .val (.int 1), .val (.int r61_0), .val (.double (FP.i2d (sv r61_0))), .second] [(.int 1), (.ref sa), (.int r61_1), (.ref ob)])) rfl rfl (hb hby d3_45) _ K) ?_
  show OwnG p e below s _ _ _ (T103.setTop (mkF m 46 _ [(.double (FP.i2d (sv r61_1))), (.int r61_1), (.ref ob)]))
  obtain ⟨cq104, q104, q104'⟩ := Exa.cell f91
  obtain ⟨_, _, ⟨T104, L104, k104, n104⟩, -, X104, ⟨Lc104, hQ104, l104, y104, z104⟩, st104⟩ := X103.privateBack hx (y := (⟨"com/example/etsinta/etsinta/search/Best", "siftDown", "(ID)V"⟩ : MethodName)) hown (mvT hZ (own_w hw 73 rfl)) (mvT hZ (own_w hw 74 rfl)) (own_selp hZ (y := (⟨"com/example/etsinta/etsinta/search/Best", "siftDown", "(ID)V"⟩ : MethodName)) (own_w hw 4 rfl) (own_w hw 75 rfl) (own_w hw 74 rfl) (by decide)) (Cond.privateMethod_at (mvP hZ (own_w hw 75 rfl) (args := #[]))) (mvT hZ (own_w hw 76 rfl)) (by decide) (backOf (W := 0) (rm15d1 l Z a0 hw [] sv pl ob sa da pa (ownSet fd61 2 (.int r18_0)) (ownSet fs61 2 (.double (FP.i2d (sv r18_0)))) fp r61_1 h90 n0 sz90 ⟨f91, f93, f94, f95, f96, f101, f98, f99, f100⟩ Nn hP  t61_1.2.2) hZ (own_w hw 76 rfl) (own_w hw 5 rfl) (by decide) (by decide)) (g := (mkF m 46 #[.val (.ref ob), .val (.int 4), .val (.int 1), .val (.int r61_0), .val (.double (FP.i2d (sv r61_0))), .second] [(.double (FP.i2d (sv r61_1))), (.int r61_1), (.ref ob)])) rfl (by rw [hml]; rfl) (Steps.refl _) (a := ob) (by rw [e103]; exact q104) q104' (argsL := [(.int r61_1), (.double (FP.i2d (sv r61_1)))]) (rest := []) (lenOf pd_2 rfl) rfl (by show 2 * 0 + _ ≤ _; exact Nat.le_of_eq rfl) (hb hby d3_46) (fun _ _ => ⟨rfl, e103, (by decide : 0 + 0 ≤ _), (by decide : 0 + 0 ≤ _)⟩)
  dsimp only [Pt.U, Pt.locs, Pt.cells, Pt.slots] at X104 l104 y104 z104 st104 hQ104
  subst l104 y104 z104
  refine own_by (fun _ K => st104.trans K) ?_
  obtain ⟨rfl, N104q, K104, fd104, fs104, r104_0, S104, t104_0, hD104, hH104⟩ := hQ104
  have N104 := Fr.app N90 N104q
  have sz104 : n0 ≤ T104.heap.size := Nat.le_trans sz90 K104.1
  have f105 := Exa.keep f91 K104
  have f106 := Keep.trans f92 K104 (allS (Or.inl (by simp)) (allS (Or.inl (by simp)) all0))
  show OwnG p e below s _ _ _ (T104.setTop (mkF m 49 _ []))
  refine own_by (fun _ K => XS.aloadN X104.here hx rfl (hb hby d3_49) rfl rfl K) ?_
  show OwnG p e below s _ _ _ (T104.setTop (mkF m 50 _ [(.ref ob)]))
  obtain ⟨T107, X107, e107, st107⟩ := getF X104 hx hZ hown (host := "") (Or.inl (own_w hw 14 rfl)) Via.refl (rfl : T104.heap = T104.heap) S104.2.2.1 (g := (mkF m 50 #[.val (.ref ob), .val (.int 4), .val (.int 1), .val (.int r61_0), .val (.double (FP.i2d (sv r61_0))), .second] [(.ref ob)])) rfl rfl (hb hby d3_50)
  refine own_by (fun _ K => st107 _ K) ?_
  show OwnG p e below s _ _ _ (T107.setTop (mkF m 53 _ [(.ref da)]))
  refine own_by (fun _ K => XS.iloadN X107.here hx rfl (hb hby d3_53) rfl K) ?_
  show OwnG p e below s _ _ _ (T107.setTop (mkF m 54 _ [(.int 1), (.ref da)]))
  refine own_by (fun _ K => XS.iloadN X107.here hx rfl (hb hby d3_54) rfl K) ?_
  show OwnG p e below s _ _ _ (T107.setTop (mkF m 55 _ [(.int r61_0), (.int 1), (.ref da)]))
  obtain ⟨T108, h108, X108, e108, W108, A108, st108⟩ := own_stI X107 hx hZ e107 S104.2.2.2.2.2.2.1 (j := (1 : Int32)) (i := 1) ⟨by decide, rfl, by decide⟩ (g := (mkF m 55 #[.val (.ref ob), .val (.int 4), .val (.int 1), .val (.int r61_0), .val (.double (FP.i2d (sv r61_0))), .second] [(.int r61_0), (.int 1), (.ref da)])) rfl rfl (hb hby d3_55)
  refine own_by (fun _ K => st108 _ K) ?_
  have f109 := Exa.wr W108 S104.1
  have f110 := Keep.wr f106 W108 (Or.inl (by simp))
  have f111 := Fld.other W108 S104.2.1 (Or.inl Nn.2.2.2.2.1)
  have f112 := Fld.other W108 S104.2.2.1 (Or.inl Nn.2.2.2.2.1)
  have f113 := Fld.other W108 S104.2.2.2.1 (Or.inl Nn.2.2.2.2.1)
  have f114 := Fld.other W108 S104.2.2.2.2.1 (Or.inl Nn.2.2.2.2.1)
  have f115 := Fld.other W108 S104.2.2.2.2.2.1 (Or.inl Nn.2.2.2.2.1)
  have f117 := OwnA.other W108 S104.2.2.2.2.2.2.2.1 Nn.2.2.2.2.2.2.1
  have f118 := OwnA.other W108 S104.2.2.2.2.2.2.2.2 (Ne.symm Nn.2.2.2.2.2.2.2.2)
  have N108 := Fr.snoc X108 N104 Nn.2.2.1
  have sz108 : n0 ≤ h108.size := by rw [W108.size]; exact sz104
  show OwnG p e below s _ _ _ (T108.setTop (mkF m 56 _ []))
  refine own_by (fun _ K => XS.aloadN X108.here hx rfl (hb hby d3_56) rfl rfl K) ?_
  show OwnG p e below s _ _ _ (T108.setTop (mkF m 57 _ [(.ref ob)]))
  obtain ⟨T119, X119, e119, st119⟩ := getF X108 hx hZ hown (host := "") (Or.inl (own_w hw 12 rfl)) Via.refl e108 f111 (g := (mkF m 57 #[.val (.ref ob), .val (.int 4), .val (.int 1), .val (.int r61_0), .val (.double (FP.i2d (sv r61_0))), .second] [(.ref ob)])) rfl rfl (hb hby d3_57)
  refine own_by (fun _ K => st119 _ K) ?_
  show OwnG p e below s _ _ _ (T119.setTop (mkF m 60 _ [(.ref sa)]))
  refine own_by (fun _ K => XS.iloadN X119.here hx rfl (hb hby d3_60) rfl K) ?_
  show OwnG p e below s _ _ _ (T119.setTop (mkF m 61 _ [(.int 1), (.ref sa)]))
  refine own_by (fun _ K => XS.dload X119.here hx rfl (hb hby d3_61) rfl K) ?_
  show OwnG p e below s _ _ _ (T119.setTop (mkF m 63 _ [(.double (FP.i2d (sv r61_0))), (.int 1), (.ref sa)]))
  obtain ⟨T120, h120, X120, e120, W120, A120, st120⟩ := own_stD X119 hx hZ e119 f117 (j := (1 : Int32)) (i := 1) ⟨by decide, rfl, by decide⟩ (g := (mkF m 63 #[.val (.ref ob), .val (.int 4), .val (.int 1), .val (.int r61_0), .val (.double (FP.i2d (sv r61_0))), .second] [(.double (FP.i2d (sv r61_0))), (.int 1), (.ref sa)])) rfl rfl (hb hby d3_63)
  refine own_by (fun _ K => st120 _ K) ?_
  have f121 := Exa.wr W120 f109
  have f122 := Keep.wr f110 W120 (Or.inl (by simp))
  have f123 := Fld.other W120 f111 (Or.inl Nn.2.2.2.1)
  have f124 := Fld.other W120 f112 (Or.inl Nn.2.2.2.1)
  have f125 := Fld.other W120 f113 (Or.inl Nn.2.2.2.1)
  have f126 := Fld.other W120 f114 (Or.inl Nn.2.2.2.1)
  have f127 := Fld.other W120 f115 (Or.inl Nn.2.2.2.1)
  have f128 := OwnA.other W120 A108 (Ne.symm Nn.2.2.2.2.2.2.1)
  have f130 := OwnA.other W120 f118 (Ne.symm Nn.2.2.2.2.2.2.2.1)
  have N120 := Fr.snoc X120 N108 Nn.2.1
  have sz120 : n0 ≤ h120.size := by rw [W120.size]; exact sz108
  show OwnG p e below s _ _ _ (T120.setTop (mkF m 64 _ []))
  refine own_by (fun _ K => XS.iinc X120.here hx rfl (hb hby d3_64) rfl (l' := #[.val (.ref ob), .val (.int 4), .val (.int 0), .val (.int r61_0), .val (.double (FP.i2d (sv r61_0))), .second]) rfl K) ?_
  show OwnG p e below s _ _ _ (T120.setTop (mkF m 67 _ []))
  refine own_by (fun _ K => XS.goto X120.here hx rfl (pc0 := 67) (pc' := 9) rfl (hb hby d3_67) (by decide) (by decide) K) ?_
  show OwnG p e below s _ _ _ (T120.setTop (mkF m 9 _ []))
  refine own_by (fun _ K => XS.iloadN X120.here hx rfl (hb hby d3_9) rfl K) ?_
  show OwnG p e below s _ _ _ (T120.setTop (mkF m 10 _ [(.int 0)]))
  refine own_by (fun _ K => XS.ifYes X120.here hx rfl (pc0 := 10) (pc' := 70) rfl (hb hby d3_10) rfl ((if0 _ _).trans (flt (by decide)).2.2.2) (by decide) (by decide) K) ?_
  show OwnG p e below s _ _ _ (T120.setTop (mkF m 70 _ []))
  refine own_by (fun _ K => XS.aloadN X120.here hx rfl (hb hby d3_70) rfl rfl K) ?_
  show OwnG p e below s _ _ _ (T120.setTop (mkF m 71 _ [(.ref ob)]))
  refine own_by (fun _ K => XS.iloadN X120.here hx rfl (hb hby d3_71) rfl K) ?_
  show OwnG p e below s _ _ _ (T120.setTop (mkF m 72 _ [(.int 4), (.ref ob)]))
  obtain ⟨T131, h131, X131, e131, W131, st131⟩ := putF X120 hx hZ hown (host := "") (Or.inl (own_w hw 25 rfl)) Via.refl e120 f127 f121 (Or.inl (own_w hw 26 rfl)) (own_w hw 4 rfl) (ty := .int) (by decide) rfl rfl (g := (mkF m 72 #[.val (.ref ob), .val (.int 4), .val (.int 0), .val (.int r61_0), .val (.double (FP.i2d (sv r61_0))), .second] [(.int 4), (.ref ob)])) rfl rfl (hb hby d3_72)
  refine own_by (fun _ K => st131 _ K) ?_
  have f132 := Exa.wr W131 f121
  have f133 := Keep.wr f122 W131 (Or.inl (by simp))
  have f134 := Fld.other W131 f123 (Or.inr (slot_ne (Or.inl (own_w hw 13 rfl)) (Or.inl (own_w hw 26 rfl)) (by decide) (t := (.array .double)) (t' := .int) (by decide) (by decide)))
  have f135 := Fld.other W131 f124 (Or.inr (slot_ne (Or.inl (own_w hw 15 rfl)) (Or.inl (own_w hw 26 rfl)) (by decide) (t := (.array .int)) (t' := .int) (by decide) (by decide)))
  have f136 := Fld.other W131 f125 (Or.inr (slot_ne (Or.inr (own_w hw 17 rfl)) (Or.inl (own_w hw 26 rfl)) (by decide) (t := .int) (t' := .int) (by decide) (by decide)))
  have f137 := Fld.other W131 f126 (Or.inr (slot_ne (Or.inr (own_w hw 19 rfl)) (Or.inl (own_w hw 26 rfl)) (by decide) (t := (.array .int)) (t' := .int) (by decide) (by decide)))
  have f139 := OwnA.other W131 f128 (Ne.symm Nn.2.2.2.2.1)
  have f140 := OwnA.other W131 A120 (Ne.symm Nn.2.2.2.1)
  have f141 := OwnA.other W131 f130 (Ne.symm Nn.2.2.2.2.2.1)
  have f142 := Fld.same W131 f127
  have N131 := Fr.snoc X131 N120 Nn.1
  have sz131 : n0 ≤ h131.size := by rw [W131.size]; exact sz120
  show OwnG p e below s _ _ _ (T131.setTop (mkF m 75 _ []))
  exact own_outV X131 hx hret hlk (hb hby d3_75) (by show _ ∧ _; rw [e131]; exact ⟨rfl, N131, f133, _, _, r104_0, r61_0, r18_0, d0, ⟨f132, f134, f135, f136, f137, f142, f139, f140, f141⟩, ⟨t104_0.1, t104_0.2.1, t104_0.2.2⟩, ⟨rfl, rfl, t61_0.2.2⟩, ⟨((hH104 2 (by decide)).1.trans rfl), ((hH104 2 (by decide)).2.trans rfl), t18_0.2.2⟩, ⟨((hH104 3 (by decide)).1.trans ((hH61 3 (by decide)).1.trans rfl)), ((hH104 3 (by decide)).2.trans ((hH61 3 (by decide)).2.trans rfl)), t0.2.2⟩, ⟨_, _, _, _, _, hD18, hD61, hD104, rfl, rfl, rfl⟩⟩) (by decide) (by decide)
theorem d4_0 : decode prog_26_method_4_code 0 = .ok (.aload_n 0, 1) := by decide +kernel
theorem d4_1 : decode prog_26_method_4_code 1 = .ok (.getfield 74, 3) := by decide +kernel
theorem d4_4 : decode prog_26_method_4_code 4 = .ok (.ireturn, 1) := by decide +kernel
theorem ef_4 (m : MethodId) (x0 : Addr) : entryFrame m #[(.ref x0)] 1 = mkF m 0 #[.val (.ref x0)] [] := by first | (simp [entryFrame, mkF, argsToLocals, Value.category]; done) | rfl
def Q4 (Z : State) (ob sa da pa : Addr) (sz : Int32) (fd fs fp : Nat → Value) (h0 : Heap) (n0 : Nat) (v : Option Value) (h : Heap) (L : List Loc) : Prop := v = some (.int sz) ∧ Fr n0 L ∧ h = h0
set_option maxRecDepth 65536 in
set_option maxHeartbeats 40000000 in
theorem rm4 (l : Launch) (Z : State) (a0 : Array Value) (hw : ∀ d ∈ tables_1, d.before a0 Z = true) (ws : List Jvm.Cond) (ob sa da pa : Addr) (sz : Int32) (fd fs fp : Nat → Value) (h0 : Heap) (n0 : Nat) (Z0 : n0 ≤ h0.size) (Sb : own_S Z h0 ob sa da pa sz fd fs fp) :
    MetFree l (⟨"com/example/etsinta/etsinta/search/Best", "size", "()I"⟩ : MethodName) (head1 (Jvm.Cond.code (⟨"com/example/etsinta/etsinta/search/Best", "size", "()I"⟩ : MethodName) prog_26_method_4_code 1 (some .int) :: ws) ({ frames := 0, cells := 0, slots := 0, locals := 0 } : Room)) (fun aa_ U => aa_ = #[(.ref ob)] ∧ Z.Warmed39 U.vm ∧ U.heap = h0) (fun _ _ _ _ _ => True) (fun _ U o U' => ∃ v L, o = .returned v ∧ Q4 Z ob sa da pa sz fd fs fp h0 n0 v U'.heap L ∧ FrameEnd U o U' L ({ frames := 0, cells := 0, slots := 0, locals := 0 } : Room).cells ({ frames := 0, cells := 0, slots := 0, locals := 0 } : Room).slots) := by
  refine own_met (Q := fun v h L => Q4 Z ob sa da pa sz fd fs fp h0 n0 v h L) (plainFor_of_name pn_0) ?_
  intro p e s m below meth c s₁ hx hby hml hret hlk hown hnm hZ X0 e0
  have N0 := Fr.nil n0
  rw [ef_4 m ob]
  show OwnG p e below s _ _ _ (s₁.setTop (mkF m 0 #[.val (.ref ob)] []))
  refine own_by (fun _ K => XS.aloadN X0.here hx rfl (hb hby d4_0) rfl rfl K) ?_
  show OwnG p e below s _ _ _ (s₁.setTop (mkF m 1 _ [(.ref ob)]))
  obtain ⟨T1, X1, e1, st1⟩ := getF X0 hx hZ hown (host := "") (Or.inl (own_w hw 25 rfl)) Via.refl e0 Sb.2.2.2.2.2.1 (g := (mkF m 1 #[.val (.ref ob)] [(.ref ob)])) rfl rfl (hb hby d4_1)
  refine own_by (fun _ K => st1 _ K) ?_
  show OwnG p e below s _ _ _ (T1.setTop (mkF m 4 _ [(.int sz)]))
  exact own_outI X1 hx hret hlk (hb hby d4_4) (⟨rfl, N0, e1⟩) (by decide) (by decide)
theorem d12_0 : decode jdk_41_method_11_code 0 = .ok (.iload_n 0, 1) := by decide +kernel
theorem d12_1 : decode jdk_41_method_11_code 1 = .ok (.ifCond .lt 8, 3) := by decide +kernel
theorem d12_4 : decode jdk_41_method_11_code 4 = .ok (.iload_n 0, 1) := by decide +kernel
theorem d12_5 : decode jdk_41_method_11_code 5 = .ok (.iload_n 1, 1) := by decide +kernel
theorem d12_6 : decode jdk_41_method_11_code 6 = .ok (.if_icmp .lt 10, 3) := by decide +kernel
theorem d12_9 : decode jdk_41_method_11_code 9 = .ok (.aload_n 2, 1) := by decide +kernel
theorem d12_10 : decode jdk_41_method_11_code 10 = .ok (.iload_n 0, 1) := by decide +kernel
theorem d12_11 : decode jdk_41_method_11_code 11 = .ok (.iload_n 1, 1) := by decide +kernel
theorem d12_12 : decode jdk_41_method_11_code 12 = .ok (.invokestatic 95, 3) := by decide +kernel
theorem d12_15 : decode jdk_41_method_11_code 15 = .ok (.athrow, 1) := by decide +kernel
theorem d12_16 : decode jdk_41_method_11_code 16 = .ok (.iload_n 0, 1) := by decide +kernel
theorem d12_17 : decode jdk_41_method_11_code 17 = .ok (.ireturn, 1) := by decide +kernel
theorem pn_2 : plainName "jdk/internal/util/Preconditions" = true := by first | (simp [plainName, overriddenIn]; done) | decide +kernel
theorem ef_12 (m : MethodId) (x0 : Int32) (x1 : Int32) : entryFrame m #[(.int x0), (.int x1), .null] 3 = mkF m 0 #[.val (.int x0), .val (.int x1), .val .null] [] := by first | (simp [entryFrame, mkF, argsToLocals, Value.category]; done) | rfl
def Q12 (Z : State) (i sz : Int32) (h0 : Heap) (n0 : Nat) (v : Option Value) (h : Heap) (L : List Loc) : Prop := v = some (.int i) ∧ Fr n0 L ∧ h = h0
set_option maxRecDepth 65536 in
set_option maxHeartbeats 40000000 in
theorem rm12 (l : Launch) (Z : State) (a0 : Array Value) (hw : ∀ d ∈ tables_1, d.before a0 Z = true) (ws : List Jvm.Cond) (i sz : Int32) (h0 : Heap) (n0 : Nat) (Z0 : n0 ≤ h0.size) (h1 : ¬ i < 0) (h2' : i < sz) :
    MetFree l (⟨"jdk/internal/util/Preconditions", "checkIndex", "(IILjava/util/function/BiFunction;)I"⟩ : MethodName) (head1 (Jvm.Cond.code (⟨"jdk/internal/util/Preconditions", "checkIndex", "(IILjava/util/function/BiFunction;)I"⟩ : MethodName) jdk_41_method_11_code 3 (some .int) :: ws) ({ frames := 0, cells := 0, slots := 0, locals := 0 } : Room)) (fun aa_ U => aa_ = #[(.int i), (.int sz), .null] ∧ Z.Warmed39 U.vm ∧ U.heap = h0) (fun _ _ _ _ _ => True) (fun _ U o U' => ∃ v L, o = .returned v ∧ Q12 Z i sz h0 n0 v U'.heap L ∧ FrameEnd U o U' L ({ frames := 0, cells := 0, slots := 0, locals := 0 } : Room).cells ({ frames := 0, cells := 0, slots := 0, locals := 0 } : Room).slots) := by
  refine own_met (Q := fun v h L => Q12 Z i sz h0 n0 v h L) (plainFor_of_name pn_2) ?_
  intro p e s m below meth c s₁ hx hby hml hret hlk hown hnm hZ X0 e0
  have N0 := Fr.nil n0
  rw [ef_12 m i sz]
  show OwnG p e below s _ _ _ (s₁.setTop (mkF m 0 #[.val (.int i), .val (.int sz), .val .null] []))
  refine own_by (fun _ K => XS.iloadN X0.here hx rfl (hb hby d12_0) rfl K) ?_
  show OwnG p e below s _ _ _ (s₁.setTop (mkF m 1 _ [(.int i)]))
  refine own_by (fun _ K => XS.ifNo X0.here hx rfl (hb hby d12_1) rfl ((if0 _ _).trans (flt h1).1) K) ?_
  show OwnG p e below s _ _ _ (s₁.setTop (mkF m 4 _ []))
  refine own_by (fun _ K => XS.iloadN X0.here hx rfl (hb hby d12_4) rfl K) ?_
  show OwnG p e below s _ _ _ (s₁.setTop (mkF m 5 _ [(.int i)]))
  refine own_by (fun _ K => XS.iloadN X0.here hx rfl (hb hby d12_5) rfl K) ?_
  show OwnG p e below s _ _ _ (s₁.setTop (mkF m 6 _ [(.int sz), (.int i)]))
  refine own_by (fun _ K => XS.icmpYes X0.here hx rfl (pc0 := 6) (pc' := 16) rfl (hb hby d12_6) rfl (tlt h2').1 (by decide) (by decide) K) ?_
  show OwnG p e below s _ _ _ (s₁.setTop (mkF m 16 _ []))
  refine own_by (fun _ K => XS.iloadN X0.here hx rfl (hb hby d12_16) rfl K) ?_
  show OwnG p e below s _ _ _ (s₁.setTop (mkF m 17 _ [(.int i)]))
  exact own_outI X0 hx hret hlk (hb hby d12_17) (⟨rfl, N0, e0⟩) (by decide) (by decide)
theorem d11_0 : decode jdk_31_method_17_code 0 = .ok (.iload_n 0, 1) := by decide +kernel
theorem d11_1 : decode jdk_31_method_17_code 1 = .ok (.iload_n 1, 1) := by decide +kernel
theorem d11_2 : decode jdk_31_method_17_code 2 = .ok (.aconst_null, 1) := by decide +kernel
theorem d11_3 : decode jdk_31_method_17_code 3 = .ok (.invokestatic 105, 3) := by decide +kernel
theorem d11_6 : decode jdk_31_method_17_code 6 = .ok (.ireturn, 1) := by decide +kernel
theorem pn_3 : plainName "java/util/Objects" = true := by first | (simp [plainName, overriddenIn]; done) | decide +kernel
theorem pd_3 : parseMethodDescriptor "(IILjava/util/function/BiFunction;)I" = some ⟨[.int, .int, (.object "java/util/function/BiFunction")], some .int⟩ := by decide +kernel
theorem ef_11 (m : MethodId) (x0 : Int32) (x1 : Int32) : entryFrame m #[(.int x0), (.int x1)] 2 = mkF m 0 #[.val (.int x0), .val (.int x1)] [] := by first | (simp [entryFrame, mkF, argsToLocals, Value.category]; done) | rfl
def Q11 (Z : State) (i sz : Int32) (h0 : Heap) (n0 : Nat) (v : Option Value) (h : Heap) (L : List Loc) : Prop := v = some (.int i) ∧ Fr n0 L ∧ h = h0
set_option maxRecDepth 65536 in
set_option maxHeartbeats 40000000 in
theorem rm11 (l : Launch) (Z : State) (a0 : Array Value) (hw : ∀ d ∈ tables_1, d.before a0 Z = true) (ws : List Jvm.Cond) (i sz : Int32) (h0 : Heap) (n0 : Nat) (Z0 : n0 ≤ h0.size) (h1 : ¬ i < 0) (h2' : i < sz) :
    MetFree l (⟨"java/util/Objects", "checkIndex", "(II)I"⟩ : MethodName) (head1 (Jvm.Cond.code (⟨"java/util/Objects", "checkIndex", "(II)I"⟩ : MethodName) jdk_31_method_17_code 2 (some .int) :: ws) ({ frames := 1, cells := 0, slots := 0, locals := 14 } : Room)) (fun aa_ U => aa_ = #[(.int i), (.int sz)] ∧ Z.Warmed39 U.vm ∧ U.heap = h0) (fun _ _ _ _ _ => True) (fun _ U o U' => ∃ v L, o = .returned v ∧ Q11 Z i sz h0 n0 v U'.heap L ∧ FrameEnd U o U' L ({ frames := 1, cells := 0, slots := 0, locals := 14 } : Room).cells ({ frames := 1, cells := 0, slots := 0, locals := 14 } : Room).slots) := by
  refine own_met (Q := fun v h L => Q11 Z i sz h0 n0 v h L) (plainFor_of_name pn_3) ?_
  intro p e s m below meth c s₁ hx hby hml hret hlk hown hnm hZ X0 e0
  have N0 := Fr.nil n0
  rw [ef_11 m i sz]
  show OwnG p e below s _ _ _ (s₁.setTop (mkF m 0 #[.val (.int i), .val (.int sz)] []))
  refine own_by (fun _ K => XS.iloadN X0.here hx rfl (hb hby d11_0) rfl K) ?_
  show OwnG p e below s _ _ _ (s₁.setTop (mkF m 1 _ [(.int i)]))
  refine own_by (fun _ K => XS.iloadN X0.here hx rfl (hb hby d11_1) rfl K) ?_
  show OwnG p e below s _ _ _ (s₁.setTop (mkF m 2 _ [(.int sz), (.int i)]))
  refine own_by (fun _ K => XS.aconstNull X0.here hx rfl (hb hby d11_2) K) ?_
  show OwnG p e below s _ _ _ (s₁.setTop (mkF m 3 _ [.null, (.int sz), (.int i)]))
  obtain ⟨_, _, ⟨T1, L1, k1, n1⟩, -, X1, ⟨Lc1, hQ1, l1, y1, z1⟩, st1⟩ := Jvm.LawKit.callS X0 hx (y := (⟨"jdk/internal/util/Preconditions", "checkIndex", "(IILjava/util/function/BiFunction;)I"⟩ : MethodName)) hown (mvT hZ (own_w hw 60 rfl)) (mvT hZ (own_w hw 61 rfl)) (mvT hZ (own_w hw 62 rfl)) (mvT hZ (own_w hw 63 rfl)) (by decide) (backOf (W := 0) (rm12 l Z a0 hw [] i sz h0 n0 Z0 h1 h2') hZ (own_w hw 63 rfl) (own_w hw 62 rfl) (by decide) (by decide)) (g := (mkF m 3 #[.val (.int i), .val (.int sz)] [.null, (.int sz), (.int i)])) rfl (by rw [hml]; rfl) (argsL := [(.int i), (.int sz), .null]) (rest := []) (lenOf pd_3 rfl) rfl (by show 2 * 0 + _ ≤ _; exact Nat.le_of_eq rfl) (hb hby d11_3) (fun _ _ => ⟨rfl, e0, (by decide : 0 + 0 ≤ _), (by decide : 0 + 0 ≤ _)⟩)
  dsimp only [Pt.U, Pt.locs, Pt.cells, Pt.slots] at X1 l1 y1 z1 st1 hQ1
  subst l1 y1 z1
  refine own_by (fun _ K => st1 _ K) ?_
  obtain ⟨rfl, N1q, hh1⟩ := hQ1
  have N1 := Fr.app N0 N1q
  have sz1 : n0 ≤ T1.heap.size := by rw [hh1]; exact Z0
  show OwnG p e below s _ _ _ (T1.setTop (mkF m 6 _ [(.int i)]))
  exact own_outI X1 hx hret hlk (hb hby d11_6) (⟨rfl, N1, (Eq.trans (rfl : T1.heap = T1.heap) hh1)⟩) (by decide) (by decide)
theorem d10_0 : decode prog_26_method_6_code 0 = .ok (.aload_n 0, 1) := by decide +kernel
theorem d10_1 : decode prog_26_method_6_code 1 = .ok (.getfield 13, 3) := by decide +kernel
theorem d10_4 : decode prog_26_method_6_code 4 = .ok (.iload_n 1, 1) := by decide +kernel
theorem d10_5 : decode prog_26_method_6_code 5 = .ok (.aload_n 0, 1) := by decide +kernel
theorem d10_6 : decode prog_26_method_6_code 6 = .ok (.getfield 74, 3) := by decide +kernel
theorem d10_9 : decode prog_26_method_6_code 9 = .ok (.invokestatic 106, 3) := by decide +kernel
theorem d10_12 : decode prog_26_method_6_code 12 = .ok (.iaload, 1) := by decide +kernel
theorem d10_13 : decode prog_26_method_6_code 13 = .ok (.ireturn, 1) := by decide +kernel
theorem pd_4 : parseMethodDescriptor "(II)I" = some ⟨[.int, .int], some .int⟩ := by decide +kernel
theorem ef_10 (m : MethodId) (x0 : Addr) (x1 : Int32) : entryFrame m #[(.ref x0), (.int x1)] 2 = mkF m 0 #[.val (.ref x0), .val (.int x1)] [] := by first | (simp [entryFrame, mkF, argsToLocals, Value.category]; done) | rfl
def Q10 (Z : State) (ob sa da pa : Addr) (sz : Int32) (fd fs fp : Nat → Value) (i : Int32) (k : Nat) (y : Int32) (h0 : Heap) (n0 : Nat) (v : Option Value) (h : Heap) (L : List Loc) : Prop := v = some (.int y) ∧ Fr n0 L ∧ h = h0
set_option maxRecDepth 65536 in
set_option maxHeartbeats 40000000 in
theorem rm10 (l : Launch) (Z : State) (a0 : Array Value) (hw : ∀ d ∈ tables_1, d.before a0 Z = true) (ws : List Jvm.Cond) (ob sa da pa : Addr) (sz : Int32) (fd fs fp : Nat → Value) (i : Int32) (k : Nat) (y : Int32) (h0 : Heap) (n0 : Nat) (Z0 : n0 ≤ h0.size) (Sb : own_S Z h0 ob sa da pa sz fd fs fp) (hk : ¬ i < 0 ∧ i.toNatClampNeg = k ∧ k < 16) (h2' : i < sz) (hv : fd k = .int y) :
    MetFree l (⟨"com/example/etsinta/etsinta/search/Best", "document", "(I)I"⟩ : MethodName) (head1 (Jvm.Cond.code (⟨"com/example/etsinta/etsinta/search/Best", "document", "(I)I"⟩ : MethodName) prog_26_method_6_code 2 (some .int) :: ws) ({ frames := 2, cells := 0, slots := 0, locals := 28 } : Room)) (fun aa_ U => aa_ = #[(.ref ob), (.int i)] ∧ Z.Warmed39 U.vm ∧ U.heap = h0) (fun _ _ _ _ _ => True) (fun _ U o U' => ∃ v L, o = .returned v ∧ Q10 Z ob sa da pa sz fd fs fp i k y h0 n0 v U'.heap L ∧ FrameEnd U o U' L ({ frames := 2, cells := 0, slots := 0, locals := 28 } : Room).cells ({ frames := 2, cells := 0, slots := 0, locals := 28 } : Room).slots) := by
  refine own_met (Q := fun v h L => Q10 Z ob sa da pa sz fd fs fp i k y h0 n0 v h L) (plainFor_of_name pn_0) ?_
  intro p e s m below meth c s₁ hx hby hml hret hlk hown hnm hZ X0 e0
  have N0 := Fr.nil n0
  rw [ef_10 m ob i]
  show OwnG p e below s _ _ _ (s₁.setTop (mkF m 0 #[.val (.ref ob), .val (.int i)] []))
  refine own_by (fun _ K => XS.aloadN X0.here hx rfl (hb hby d10_0) rfl rfl K) ?_
  show OwnG p e below s _ _ _ (s₁.setTop (mkF m 1 _ [(.ref ob)]))
  obtain ⟨T1, X1, e1, st1⟩ := getF X0 hx hZ hown (host := "") (Or.inl (own_w hw 14 rfl)) Via.refl e0 Sb.2.2.1 (g := (mkF m 1 #[.val (.ref ob), .val (.int i)] [(.ref ob)])) rfl rfl (hb hby d10_1)
  refine own_by (fun _ K => st1 _ K) ?_
  show OwnG p e below s _ _ _ (T1.setTop (mkF m 4 _ [(.ref da)]))
  refine own_by (fun _ K => XS.iloadN X1.here hx rfl (hb hby d10_4) rfl K) ?_
  show OwnG p e below s _ _ _ (T1.setTop (mkF m 5 _ [(.int i), (.ref da)]))
  refine own_by (fun _ K => XS.aloadN X1.here hx rfl (hb hby d10_5) rfl rfl K) ?_
  show OwnG p e below s _ _ _ (T1.setTop (mkF m 6 _ [(.ref ob), (.int i), (.ref da)]))
  obtain ⟨T2, X2, e2, st2⟩ := getF X1 hx hZ hown (host := "") (Or.inl (own_w hw 25 rfl)) Via.refl e1 Sb.2.2.2.2.2.1 (g := (mkF m 6 #[.val (.ref ob), .val (.int i)] [(.ref ob), (.int i), (.ref da)])) rfl rfl (hb hby d10_6)
  refine own_by (fun _ K => st2 _ K) ?_
  show OwnG p e below s _ _ _ (T2.setTop (mkF m 9 _ [(.int sz), (.int i), (.ref da)]))
  obtain ⟨_, _, ⟨T3, L3, k3, n3⟩, -, X3, ⟨Lc3, hQ3, l3, y3, z3⟩, st3⟩ := Jvm.LawKit.callS X2 hx (y := (⟨"java/util/Objects", "checkIndex", "(II)I"⟩ : MethodName)) hown (mvT hZ (own_w hw 56 rfl)) (mvT hZ (own_w hw 57 rfl)) (mvT hZ (own_w hw 58 rfl)) (mvT hZ (own_w hw 59 rfl)) (by decide) (backOf (W := 1) (rm11 l Z a0 hw [] i sz h0 n0 Z0 hk.1 h2') hZ (own_w hw 59 rfl) (own_w hw 58 rfl) (by decide) (by decide)) (g := (mkF m 9 #[.val (.ref ob), .val (.int i)] [(.int sz), (.int i), (.ref da)])) rfl (by rw [hml]; rfl) (argsL := [(.int i), (.int sz)]) (rest := [(.ref da)]) (lenOf pd_4 rfl) rfl (by show 2 * 0 + _ ≤ _; exact Nat.le_of_eq rfl) (hb hby d10_9) (fun _ _ => ⟨rfl, e2, (by decide : 0 + 0 ≤ _), (by decide : 0 + 0 ≤ _)⟩)
  dsimp only [Pt.U, Pt.locs, Pt.cells, Pt.slots] at X3 l3 y3 z3 st3 hQ3
  subst l3 y3 z3
  refine own_by (fun _ K => st3 _ K) ?_
  obtain ⟨rfl, N3q, hh3⟩ := hQ3
  have N3 := Fr.app N0 N3q
  have f4 := Sb.1
  rw [← hh3] at f4
  have f5 := Sb.2.1
  rw [← hh3] at f5
  have f6 := Sb.2.2.1
  rw [← hh3] at f6
  have f7 := Sb.2.2.2.1
  rw [← hh3] at f7
  have f8 := Sb.2.2.2.2.1
  rw [← hh3] at f8
  have f9 := Sb.2.2.2.2.2.1
  rw [← hh3] at f9
  have f10 := Sb.2.2.2.2.2.2.1
  rw [← hh3] at f10
  have f11 := Sb.2.2.2.2.2.2.2.1
  rw [← hh3] at f11
  have f12 := Sb.2.2.2.2.2.2.2.2
  rw [← hh3] at f12
  have sz3 : n0 ≤ T3.heap.size := by rw [hh3]; exact Z0
  show OwnG p e below s _ _ _ (T3.setTop (mkF m 12 _ [(.int i), (.ref da)]))
  refine own_by (fun _ K => own_ldI X3 hx hZ (rfl : T3.heap = T3.heap) f10 (j := i) (i := k) hk (v := (.int y)) hv (g := (mkF m 12 #[.val (.ref ob), .val (.int i)] [(.int i), (.ref da)])) rfl rfl (hb hby d10_12) _ K) ?_
  show OwnG p e below s _ _ _ (T3.setTop (mkF m 13 _ [(.int y)]))
  exact own_outI X3 hx hret hlk (hb hby d10_13) (⟨rfl, N3, (Eq.trans (rfl : T3.heap = T3.heap) hh3)⟩) (by decide) (by decide)
theorem d13_0 : decode prog_26_method_7_code 0 = .ok (.aload_n 0, 1) := by decide +kernel
theorem d13_1 : decode prog_26_method_7_code 1 = .ok (.getfield 7, 3) := by decide +kernel
theorem d13_4 : decode prog_26_method_7_code 4 = .ok (.iload_n 1, 1) := by decide +kernel
theorem d13_5 : decode prog_26_method_7_code 5 = .ok (.aload_n 0, 1) := by decide +kernel
theorem d13_6 : decode prog_26_method_7_code 6 = .ok (.getfield 74, 3) := by decide +kernel
theorem d13_9 : decode prog_26_method_7_code 9 = .ok (.invokestatic 106, 3) := by decide +kernel
theorem d13_12 : decode prog_26_method_7_code 12 = .ok (.daload, 1) := by decide +kernel
theorem d13_13 : decode prog_26_method_7_code 13 = .ok (.dreturn, 1) := by decide +kernel
theorem ef_13 (m : MethodId) (x0 : Addr) (x1 : Int32) : entryFrame m #[(.ref x0), (.int x1)] 2 = mkF m 0 #[.val (.ref x0), .val (.int x1)] [] := by first | (simp [entryFrame, mkF, argsToLocals, Value.category]; done) | rfl
def Q13 (Z : State) (ob sa da pa : Addr) (sz : Int32) (fd fs fp : Nat → Value) (i : Int32) (k : Nat) (y : UInt64) (h0 : Heap) (n0 : Nat) (v : Option Value) (h : Heap) (L : List Loc) : Prop := v = some (.double y) ∧ Fr n0 L ∧ h = h0
set_option maxRecDepth 65536 in
set_option maxHeartbeats 40000000 in
theorem rm13 (l : Launch) (Z : State) (a0 : Array Value) (hw : ∀ d ∈ tables_1, d.before a0 Z = true) (ws : List Jvm.Cond) (ob sa da pa : Addr) (sz : Int32) (fd fs fp : Nat → Value) (i : Int32) (k : Nat) (y : UInt64) (h0 : Heap) (n0 : Nat) (Z0 : n0 ≤ h0.size) (Sb : own_S Z h0 ob sa da pa sz fd fs fp) (hk : ¬ i < 0 ∧ i.toNatClampNeg = k ∧ k < 16) (h2' : i < sz) (hv : fs k = .double y) :
    MetFree l (⟨"com/example/etsinta/etsinta/search/Best", "score", "(I)D"⟩ : MethodName) (head1 (Jvm.Cond.code (⟨"com/example/etsinta/etsinta/search/Best", "score", "(I)D"⟩ : MethodName) prog_26_method_7_code 2 (some .double) :: ws) ({ frames := 2, cells := 0, slots := 0, locals := 28 } : Room)) (fun aa_ U => aa_ = #[(.ref ob), (.int i)] ∧ Z.Warmed39 U.vm ∧ U.heap = h0) (fun _ _ _ _ _ => True) (fun _ U o U' => ∃ v L, o = .returned v ∧ Q13 Z ob sa da pa sz fd fs fp i k y h0 n0 v U'.heap L ∧ FrameEnd U o U' L ({ frames := 2, cells := 0, slots := 0, locals := 28 } : Room).cells ({ frames := 2, cells := 0, slots := 0, locals := 28 } : Room).slots) := by
  refine own_met (Q := fun v h L => Q13 Z ob sa da pa sz fd fs fp i k y h0 n0 v h L) (plainFor_of_name pn_0) ?_
  intro p e s m below meth c s₁ hx hby hml hret hlk hown hnm hZ X0 e0
  have N0 := Fr.nil n0
  rw [ef_13 m ob i]
  show OwnG p e below s _ _ _ (s₁.setTop (mkF m 0 #[.val (.ref ob), .val (.int i)] []))
  refine own_by (fun _ K => XS.aloadN X0.here hx rfl (hb hby d13_0) rfl rfl K) ?_
  show OwnG p e below s _ _ _ (s₁.setTop (mkF m 1 _ [(.ref ob)]))
  obtain ⟨T1, X1, e1, st1⟩ := getF X0 hx hZ hown (host := "") (Or.inl (own_w hw 12 rfl)) Via.refl e0 Sb.2.1 (g := (mkF m 1 #[.val (.ref ob), .val (.int i)] [(.ref ob)])) rfl rfl (hb hby d13_1)
  refine own_by (fun _ K => st1 _ K) ?_
  show OwnG p e below s _ _ _ (T1.setTop (mkF m 4 _ [(.ref sa)]))
  refine own_by (fun _ K => XS.iloadN X1.here hx rfl (hb hby d13_4) rfl K) ?_
  show OwnG p e below s _ _ _ (T1.setTop (mkF m 5 _ [(.int i), (.ref sa)]))
  refine own_by (fun _ K => XS.aloadN X1.here hx rfl (hb hby d13_5) rfl rfl K) ?_
  show OwnG p e below s _ _ _ (T1.setTop (mkF m 6 _ [(.ref ob), (.int i), (.ref sa)]))
  obtain ⟨T2, X2, e2, st2⟩ := getF X1 hx hZ hown (host := "") (Or.inl (own_w hw 25 rfl)) Via.refl e1 Sb.2.2.2.2.2.1 (g := (mkF m 6 #[.val (.ref ob), .val (.int i)] [(.ref ob), (.int i), (.ref sa)])) rfl rfl (hb hby d13_6)
  refine own_by (fun _ K => st2 _ K) ?_
  show OwnG p e below s _ _ _ (T2.setTop (mkF m 9 _ [(.int sz), (.int i), (.ref sa)]))
  obtain ⟨_, _, ⟨T3, L3, k3, n3⟩, -, X3, ⟨Lc3, hQ3, l3, y3, z3⟩, st3⟩ := Jvm.LawKit.callS X2 hx (y := (⟨"java/util/Objects", "checkIndex", "(II)I"⟩ : MethodName)) hown (mvT hZ (own_w hw 56 rfl)) (mvT hZ (own_w hw 57 rfl)) (mvT hZ (own_w hw 58 rfl)) (mvT hZ (own_w hw 59 rfl)) (by decide) (backOf (W := 1) (rm11 l Z a0 hw [] i sz h0 n0 Z0 hk.1 h2') hZ (own_w hw 59 rfl) (own_w hw 58 rfl) (by decide) (by decide)) (g := (mkF m 9 #[.val (.ref ob), .val (.int i)] [(.int sz), (.int i), (.ref sa)])) rfl (by rw [hml]; rfl) (argsL := [(.int i), (.int sz)]) (rest := [(.ref sa)]) (lenOf pd_4 rfl) rfl (by show 2 * 0 + _ ≤ _; exact Nat.le_of_eq rfl) (hb hby d13_9) (fun _ _ => ⟨rfl, e2, (by decide : 0 + 0 ≤ _), (by decide : 0 + 0 ≤ _)⟩)
  dsimp only [Pt.U, Pt.locs, Pt.cells, Pt.slots] at X3 l3 y3 z3 st3 hQ3
  subst l3 y3 z3
  refine own_by (fun _ K => st3 _ K) ?_
  obtain ⟨rfl, N3q, hh3⟩ := hQ3
  have N3 := Fr.app N0 N3q
  have f4 := Sb.1
  rw [← hh3] at f4
  have f5 := Sb.2.1
  rw [← hh3] at f5
  have f6 := Sb.2.2.1
  rw [← hh3] at f6
  have f7 := Sb.2.2.2.1
  rw [← hh3] at f7
  have f8 := Sb.2.2.2.2.1
  rw [← hh3] at f8
  have f9 := Sb.2.2.2.2.2.1
  rw [← hh3] at f9
  have f10 := Sb.2.2.2.2.2.2.1
  rw [← hh3] at f10
  have f11 := Sb.2.2.2.2.2.2.2.1
  rw [← hh3] at f11
  have f12 := Sb.2.2.2.2.2.2.2.2
  rw [← hh3] at f12
  have sz3 : n0 ≤ T3.heap.size := by rw [hh3]; exact Z0
  show OwnG p e below s _ _ _ (T3.setTop (mkF m 12 _ [(.int i), (.ref sa)]))
  refine own_by (fun _ K => own_ldD X3 hx hZ (rfl : T3.heap = T3.heap) f11 (j := i) (i := k) hk (v := (.double y)) hv (g := (mkF m 12 #[.val (.ref ob), .val (.int i)] [(.int i), (.ref sa)])) rfl rfl (hb hby d13_12) _ K) ?_
  show OwnG p e below s _ _ _ (T3.setTop (mkF m 13 _ [(.double y)]))
  exact own_outD X3 hx hret hlk (hb hby d13_13) (⟨rfl, N3, (Eq.trans (rfl : T3.heap = T3.heap) hh3)⟩) (by decide) (by decide)
theorem d5_0 : decode method_3_code 0 = .ok (.iload 4, 2) := by decide +kernel
theorem d5_2 : decode method_3_code 2 = .ok (.iload_n 3, 1) := by decide +kernel
theorem d5_3 : decode method_3_code 3 = .ok (.if_icmp .lt 5, 3) := by decide +kernel
theorem d5_6 : decode method_3_code 6 = .ok (.iconst 1, 1) := by decide +kernel
theorem d5_7 : decode method_3_code 7 = .ok (.ireturn, 1) := by decide +kernel
theorem d5_8 : decode method_3_code 8 = .ok (.aload_n 0, 1) := by decide +kernel
theorem d5_9 : decode method_3_code 9 = .ok (.iload 4, 2) := by decide +kernel
theorem d5_11 : decode method_3_code 11 = .ok (.iaload, 1) := by decide +kernel
theorem d5_12 : decode method_3_code 12 = .ok (.istore 5, 2) := by decide +kernel
theorem d5_14 : decode method_3_code 14 = .ok (.iload 5, 2) := by decide +kernel
theorem d5_16 : decode method_3_code 16 = .ok (.ifCond .lt 9, 3) := by decide +kernel
theorem d5_19 : decode method_3_code 19 = .ok (.iload 5, 2) := by decide +kernel
theorem d5_21 : decode method_3_code 21 = .ok (.iload_n 3, 1) := by decide +kernel
theorem d5_22 : decode method_3_code 22 = .ok (.if_icmp .lt 5, 3) := by decide +kernel
theorem d5_25 : decode method_3_code 25 = .ok (.iconst 0, 1) := by decide +kernel
theorem d5_26 : decode method_3_code 26 = .ok (.ireturn, 1) := by decide +kernel
theorem d5_27 : decode method_3_code 27 = .ok (.aload_n 1, 1) := by decide +kernel
theorem d5_28 : decode method_3_code 28 = .ok (.iload 4, 2) := by decide +kernel
theorem d5_30 : decode method_3_code 30 = .ok (.daload, 1) := by decide +kernel
theorem d5_31 : decode method_3_code 31 = .ok (.aload_n 2, 1) := by decide +kernel
theorem d5_32 : decode method_3_code 32 = .ok (.iload 5, 2) := by decide +kernel
theorem d5_34 : decode method_3_code 34 = .ok (.daload, 1) := by decide +kernel
theorem d5_35 : decode method_3_code 35 = .ok (.dcmp .l, 1) := by decide +kernel
theorem d5_36 : decode method_3_code 36 = .ok (.ifCond .ne 7, 3) := by decide +kernel
theorem d5_39 : decode method_3_code 39 = .ok (.iconst 1, 1) := by decide +kernel
theorem d5_40 : decode method_3_code 40 = .ok (.goto 4, 3) := by decide +kernel
theorem d5_43 : decode method_3_code 43 = .ok (.iconst 0, 1) := by decide +kernel
theorem d5_44 : decode method_3_code 44 = .ok (.ireturn, 1) := by decide +kernel
theorem ef_5z (m : MethodId) (x0 : Addr) (x1 : Addr) (x2 : Addr) (x3 : Int32) (x4 : Int32) : entryFrame m #[(.ref x0), (.ref x1), (.ref x2), (.int x3), (.int x4)] 6 = mkF m 0 #[.val (.ref x0), .val (.ref x1), .val (.ref x2), .val (.int x3), .val (.int x4), .unset] [] := by first | (simp [entryFrame, mkF, argsToLocals, Value.category]; done) | rfl
def Q5z (Z : State) (dd cc ss : Addr) (n i : Int32) (h0 : Heap) (n0 : Nat) (v : Option Value) (h : Heap) (L : List Loc) : Prop := v = some (.int 1) ∧ Fr n0 L ∧ h = h0
set_option maxRecDepth 65536 in
set_option maxHeartbeats 40000000 in
theorem rm5z (l : Launch) (Z : State) (a0 : Array Value) (hw : ∀ d ∈ tables_1, d.before a0 Z = true) (ws : List Jvm.Cond) (dd cc ss : Addr) (n i : Int32) (h0 : Heap) (n0 : Nat) (Z0 : n0 ≤ h0.size) (h1 : ¬ i < n) :
    MetFree l (⟨"com/example/etsinta/etsinta/search/BestRankPinLaw", "entryOk", "([I[D[DII)Z"⟩ : MethodName) (head1 (Jvm.Cond.code (⟨"com/example/etsinta/etsinta/search/BestRankPinLaw", "entryOk", "([I[D[DII)Z"⟩ : MethodName) method_3_code 6 (some .boolean) :: ws) ({ frames := 0, cells := 0, slots := 0, locals := 0 } : Room)) (fun aa_ U => aa_ = #[(.ref dd), (.ref cc), (.ref ss), (.int n), (.int i)] ∧ Z.Warmed39 U.vm ∧ U.heap = h0) (fun _ _ _ _ _ => True) (fun _ U o U' => ∃ v L, o = .returned v ∧ Q5z Z dd cc ss n i h0 n0 v U'.heap L ∧ FrameEnd U o U' L ({ frames := 0, cells := 0, slots := 0, locals := 0 } : Room).cells ({ frames := 0, cells := 0, slots := 0, locals := 0 } : Room).slots) := by
  refine own_met (Q := fun v h L => Q5z Z dd cc ss n i h0 n0 v h L) (plainFor_of_name pn_1) ?_
  intro p e s m below meth c s₁ hx hby hml hret hlk hown hnm hZ X0 e0
  have N0 := Fr.nil n0
  rw [ef_5z m dd cc ss n i]
  show OwnG p e below s _ _ _ (s₁.setTop (mkF m 0 #[.val (.ref dd), .val (.ref cc), .val (.ref ss), .val (.int n), .val (.int i), .unset] []))
  refine own_by (fun _ K => XS.iload X0.here hx rfl (hb hby d5_0) rfl K) ?_
  show OwnG p e below s _ _ _ (s₁.setTop (mkF m 2 _ [(.int i)]))
  refine own_by (fun _ K => XS.iloadN X0.here hx rfl (hb hby d5_2) rfl K) ?_
  show OwnG p e below s _ _ _ (s₁.setTop (mkF m 3 _ [(.int n), (.int i)]))
  refine own_by (fun _ K => XS.icmpNo X0.here hx rfl (hb hby d5_3) rfl (flt h1).1 K) ?_
  show OwnG p e below s _ _ _ (s₁.setTop (mkF m 6 _ []))
  refine own_by (fun _ K => XS.iconst X0.here hx rfl (hb hby d5_6) K) ?_
  show OwnG p e below s _ _ _ (s₁.setTop (mkF m 7 _ [(.int 1)]))
  exact own_outN X0 hx hret (by simp) hlk (hb hby d5_7) rfl (⟨rfl, N0, e0⟩) (by decide) (by decide)
theorem ef_5p (m : MethodId) (x0 : Addr) (x1 : Addr) (x2 : Addr) (x3 : Int32) (x4 : Int32) : entryFrame m #[(.ref x0), (.ref x1), (.ref x2), (.int x3), (.int x4)] 6 = mkF m 0 #[.val (.ref x0), .val (.ref x1), .val (.ref x2), .val (.int x3), .val (.int x4), .unset] [] := by first | (simp [entryFrame, mkF, argsToLocals, Value.category]; done) | rfl
def Q5p (Z : State) (sv : Int32 → Int32) (dd cc ss : Addr) (n i d : Int32) (k : Nat) (fdd fcc fss : Nat → Value) (h0 : Heap) (n0 : Nat) (v : Option Value) (h : Heap) (L : List Loc) : Prop := v = some (.int 1) ∧ Fr n0 L ∧ h = h0
set_option maxRecDepth 65536 in
set_option maxHeartbeats 40000000 in
theorem rm5p (l : Launch) (Z : State) (a0 : Array Value) (hw : ∀ d ∈ tables_1, d.before a0 Z = true) (ws : List Jvm.Cond) (sv : Int32 → Int32) (dd cc ss : Addr) (n i d : Int32) (k : Nat) (fdd fcc fss : Nat → Value) (h0 : Heap) (n0 : Nat) (Z0 : n0 ≤ h0.size) (Ad : OwnA Z h0 dd .int 4 fdd) (Ac : OwnA Z h0 cc .double 4 fcc) (As : OwnA Z h0 ss .double 4 fss) (h1 : i < n) (hk : ¬ i < 0 ∧ i.toNatClampNeg = k ∧ k < 4) (hd : ¬ d < 0 ∧ d < n) (k_d : own_ok d) (v1 : fdd k = .int d) (v2 : fcc k = .double (FP.i2d (sv d))) (v3 : fss d.toNatClampNeg = .double (FP.i2d (sv d))) :
    MetFree l (⟨"com/example/etsinta/etsinta/search/BestRankPinLaw", "entryOk", "([I[D[DII)Z"⟩ : MethodName) (head1 (Jvm.Cond.code (⟨"com/example/etsinta/etsinta/search/BestRankPinLaw", "entryOk", "([I[D[DII)Z"⟩ : MethodName) method_3_code 6 (some .boolean) :: ws) ({ frames := 0, cells := 0, slots := 0, locals := 0 } : Room)) (fun aa_ U => aa_ = #[(.ref dd), (.ref cc), (.ref ss), (.int n), (.int i)] ∧ Z.Warmed39 U.vm ∧ U.heap = h0) (fun _ _ _ _ _ => True) (fun _ U o U' => ∃ v L, o = .returned v ∧ Q5p Z sv dd cc ss n i d k fdd fcc fss h0 n0 v U'.heap L ∧ FrameEnd U o U' L ({ frames := 0, cells := 0, slots := 0, locals := 0 } : Room).cells ({ frames := 0, cells := 0, slots := 0, locals := 0 } : Room).slots) := by
  refine own_met (Q := fun v h L => Q5p Z sv dd cc ss n i d k fdd fcc fss h0 n0 v h L) (plainFor_of_name pn_1) ?_
  intro p e s m below meth c s₁ hx hby hml hret hlk hown hnm hZ X0 e0
  have N0 := Fr.nil n0
  rw [ef_5p m dd cc ss n i]
  show OwnG p e below s _ _ _ (s₁.setTop (mkF m 0 #[.val (.ref dd), .val (.ref cc), .val (.ref ss), .val (.int n), .val (.int i), .unset] []))
  refine own_by (fun _ K => XS.iload X0.here hx rfl (hb hby d5_0) rfl K) ?_
  show OwnG p e below s _ _ _ (s₁.setTop (mkF m 2 _ [(.int i)]))
  refine own_by (fun _ K => XS.iloadN X0.here hx rfl (hb hby d5_2) rfl K) ?_
  show OwnG p e below s _ _ _ (s₁.setTop (mkF m 3 _ [(.int n), (.int i)]))
  refine own_by (fun _ K => XS.icmpYes X0.here hx rfl (pc0 := 3) (pc' := 8) rfl (hb hby d5_3) rfl (tlt h1).1 (by decide) (by decide) K) ?_
  show OwnG p e below s _ _ _ (s₁.setTop (mkF m 8 _ []))
  refine own_by (fun _ K => XS.aloadN X0.here hx rfl (hb hby d5_8) rfl rfl K) ?_
  show OwnG p e below s _ _ _ (s₁.setTop (mkF m 9 _ [(.ref dd)]))
  refine own_by (fun _ K => XS.iload X0.here hx rfl (hb hby d5_9) rfl K) ?_
  show OwnG p e below s _ _ _ (s₁.setTop (mkF m 11 _ [(.int i), (.ref dd)]))
  refine own_by (fun _ K => own_ldI X0 hx hZ e0 Ad (j := i) (i := k) hk (v := (.int d)) v1 (g := (mkF m 11 #[.val (.ref dd), .val (.ref cc), .val (.ref ss), .val (.int n), .val (.int i), .unset] [(.int i), (.ref dd)])) rfl rfl (hb hby d5_11) _ K) ?_
  show OwnG p e below s _ _ _ (s₁.setTop (mkF m 12 _ [(.int d)]))
  refine own_by (fun _ K => XS.istore X0.here hx rfl (hb hby d5_12) rfl (l' := #[.val (.ref dd), .val (.ref cc), .val (.ref ss), .val (.int n), .val (.int i), .val (.int d)]) rfl K) ?_
  show OwnG p e below s _ _ _ (s₁.setTop (mkF m 14 _ []))
  refine own_by (fun _ K => XS.iload X0.here hx rfl (hb hby d5_14) rfl K) ?_
  show OwnG p e below s _ _ _ (s₁.setTop (mkF m 16 _ [(.int d)]))
  refine own_by (fun _ K => XS.ifNo X0.here hx rfl (hb hby d5_16) rfl ((if0 _ _).trans (flt hd.1).1) K) ?_
  show OwnG p e below s _ _ _ (s₁.setTop (mkF m 19 _ []))
  refine own_by (fun _ K => XS.iload X0.here hx rfl (hb hby d5_19) rfl K) ?_
  show OwnG p e below s _ _ _ (s₁.setTop (mkF m 21 _ [(.int d)]))
  refine own_by (fun _ K => XS.iloadN X0.here hx rfl (hb hby d5_21) rfl K) ?_
  show OwnG p e below s _ _ _ (s₁.setTop (mkF m 22 _ [(.int n), (.int d)]))
  refine own_by (fun _ K => XS.icmpYes X0.here hx rfl (pc0 := 22) (pc' := 27) rfl (hb hby d5_22) rfl (tlt hd.2).1 (by decide) (by decide) K) ?_
  show OwnG p e below s _ _ _ (s₁.setTop (mkF m 27 _ []))
  refine own_by (fun _ K => XS.aloadN X0.here hx rfl (hb hby d5_27) rfl rfl K) ?_
  show OwnG p e below s _ _ _ (s₁.setTop (mkF m 28 _ [(.ref cc)]))
  refine own_by (fun _ K => XS.iload X0.here hx rfl (hb hby d5_28) rfl K) ?_
  show OwnG p e below s _ _ _ (s₁.setTop (mkF m 30 _ [(.int i), (.ref cc)]))
  refine own_by (fun _ K => own_ldD X0 hx hZ e0 Ac (j := i) (i := k) hk (v := (.double (FP.i2d (sv d)))) v2 (g := (mkF m 30 #[.val (.ref dd), .val (.ref cc), .val (.ref ss), .val (.int n), .val (.int i), .val (.int d)] [(.int i), (.ref cc)])) rfl rfl (hb hby d5_30) _ K) ?_
  show OwnG p e below s _ _ _ (s₁.setTop (mkF m 31 _ [(.double (FP.i2d (sv d)))]))
  refine own_by (fun _ K => XS.aloadN X0.here hx rfl (hb hby d5_31) rfl rfl K) ?_
  show OwnG p e below s _ _ _ (s₁.setTop (mkF m 32 _ [(.ref ss), (.double (FP.i2d (sv d)))]))
  refine own_by (fun _ K => XS.iload X0.here hx rfl (hb hby d5_32) rfl K) ?_
  show OwnG p e below s _ _ _ (s₁.setTop (mkF m 34 _ [(.int d), (.ref ss), (.double (FP.i2d (sv d)))]))
  refine own_by (fun _ K => own_ldD X0 hx hZ e0 As (j := d) (i := d.toNatClampNeg) (own_oix k_d) (v := (.double (FP.i2d (sv d)))) v3 (g := (mkF m 34 #[.val (.ref dd), .val (.ref cc), .val (.ref ss), .val (.int n), .val (.int i), .val (.int d)] [(.int d), (.ref ss), (.double (FP.i2d (sv d)))])) rfl rfl (hb hby d5_34) _ K) ?_
  show OwnG p e below s _ _ _ (s₁.setTop (mkF m 35 _ [(.double (FP.i2d (sv d))), (.double (FP.i2d (sv d)))]))
  refine own_by (fun _ K => XS.dcmpS X0.here hx rfl (hb hby d5_35) rfl rfl K) ?_
  show OwnG p e below s _ _ _ (s₁.setTop (mkF m 36 _ [(.int (cmpValue (FP.dcmp (FP.i2d (sv d)) (FP.i2d (sv d))) .l))]))
  rw [own_dc]
  show OwnG p e below s _ _ _ (s₁.setTop (mkF m 36 #[.val (.ref dd), .val (.ref cc), .val (.ref ss), .val (.int n), .val (.int i), .val (.int d)] [(.int (lcmpW (sv d).toInt64 (sv d).toInt64))]))
  refine own_by (fun _ K => XS.ifNo X0.here hx rfl (hb hby d5_36) rfl ((if0 _ _).trans (teq ((lw_eq _ _).mpr rfl)).2) K) ?_
  show OwnG p e below s _ _ _ (s₁.setTop (mkF m 39 _ []))
  refine own_by (fun _ K => XS.iconst X0.here hx rfl (hb hby d5_39) K) ?_
  show OwnG p e below s _ _ _ (s₁.setTop (mkF m 40 _ [(.int 1)]))
  refine own_by (fun _ K => XS.goto X0.here hx rfl (pc0 := 40) (pc' := 44) rfl (hb hby d5_40) (by decide) (by decide) K) ?_
  show OwnG p e below s _ _ _ (s₁.setTop (mkF m 44 _ [(.int 1)]))
  exact own_outN X0 hx hret (by simp) hlk (hb hby d5_44) rfl (⟨rfl, N0, e0⟩) (by decide) (by decide)
theorem d6_0 : decode method_4_code 0 = .ok (.iload_n 2, 1) := by decide +kernel
theorem d6_1 : decode method_4_code 1 = .ok (.iload_n 1, 1) := by decide +kernel
theorem d6_2 : decode method_4_code 2 = .ok (.if_icmp .lt 5, 3) := by decide +kernel
theorem d6_5 : decode method_4_code 5 = .ok (.iconst 0, 1) := by decide +kernel
theorem d6_6 : decode method_4_code 6 = .ok (.ireturn, 1) := by decide +kernel
theorem d6_7 : decode method_4_code 7 = .ok (.iconst 1, 1) := by decide +kernel
theorem d6_8 : decode method_4_code 8 = .ok (.aload_n 0, 1) := by decide +kernel
theorem d6_9 : decode method_4_code 9 = .ok (.iload_n 2, 1) := by decide +kernel
theorem d6_10 : decode method_4_code 10 = .ok (.iaload, 1) := by decide +kernel
theorem d6_11 : decode method_4_code 11 = .ok (.ishl, 1) := by decide +kernel
theorem d6_12 : decode method_4_code 12 = .ok (.ireturn, 1) := by decide +kernel
theorem ef_6z (m : MethodId) (x0 : Addr) (x1 : Int32) (x2 : Int32) : entryFrame m #[(.ref x0), (.int x1), (.int x2)] 3 = mkF m 0 #[.val (.ref x0), .val (.int x1), .val (.int x2)] [] := by first | (simp [entryFrame, mkF, argsToLocals, Value.category]; done) | rfl
def Q6z (Z : State) (dd : Addr) (n i : Int32) (h0 : Heap) (n0 : Nat) (v : Option Value) (h : Heap) (L : List Loc) : Prop := v = some (.int 0) ∧ Fr n0 L ∧ h = h0
set_option maxRecDepth 65536 in
set_option maxHeartbeats 40000000 in
theorem rm6z (l : Launch) (Z : State) (a0 : Array Value) (hw : ∀ d ∈ tables_1, d.before a0 Z = true) (ws : List Jvm.Cond) (dd : Addr) (n i : Int32) (h0 : Heap) (n0 : Nat) (Z0 : n0 ≤ h0.size) (h1 : ¬ i < n) :
    MetFree l (⟨"com/example/etsinta/etsinta/search/BestRankPinLaw", "bit", "([III)I"⟩ : MethodName) (head1 (Jvm.Cond.code (⟨"com/example/etsinta/etsinta/search/BestRankPinLaw", "bit", "([III)I"⟩ : MethodName) method_4_code 3 (some .int) :: ws) ({ frames := 0, cells := 0, slots := 0, locals := 0 } : Room)) (fun aa_ U => aa_ = #[(.ref dd), (.int n), (.int i)] ∧ Z.Warmed39 U.vm ∧ U.heap = h0) (fun _ _ _ _ _ => True) (fun _ U o U' => ∃ v L, o = .returned v ∧ Q6z Z dd n i h0 n0 v U'.heap L ∧ FrameEnd U o U' L ({ frames := 0, cells := 0, slots := 0, locals := 0 } : Room).cells ({ frames := 0, cells := 0, slots := 0, locals := 0 } : Room).slots) := by
  refine own_met (Q := fun v h L => Q6z Z dd n i h0 n0 v h L) (plainFor_of_name pn_1) ?_
  intro p e s m below meth c s₁ hx hby hml hret hlk hown hnm hZ X0 e0
  have N0 := Fr.nil n0
  rw [ef_6z m dd n i]
  show OwnG p e below s _ _ _ (s₁.setTop (mkF m 0 #[.val (.ref dd), .val (.int n), .val (.int i)] []))
  refine own_by (fun _ K => XS.iloadN X0.here hx rfl (hb hby d6_0) rfl K) ?_
  show OwnG p e below s _ _ _ (s₁.setTop (mkF m 1 _ [(.int i)]))
  refine own_by (fun _ K => XS.iloadN X0.here hx rfl (hb hby d6_1) rfl K) ?_
  show OwnG p e below s _ _ _ (s₁.setTop (mkF m 2 _ [(.int n), (.int i)]))
  refine own_by (fun _ K => XS.icmpNo X0.here hx rfl (hb hby d6_2) rfl (flt h1).1 K) ?_
  show OwnG p e below s _ _ _ (s₁.setTop (mkF m 5 _ []))
  refine own_by (fun _ K => XS.iconst X0.here hx rfl (hb hby d6_5) K) ?_
  show OwnG p e below s _ _ _ (s₁.setTop (mkF m 6 _ [(.int 0)]))
  exact own_outI X0 hx hret hlk (hb hby d6_6) (⟨rfl, N0, e0⟩) (by decide) (by decide)
theorem ef_6p (m : MethodId) (x0 : Addr) (x1 : Int32) (x2 : Int32) : entryFrame m #[(.ref x0), (.int x1), (.int x2)] 3 = mkF m 0 #[.val (.ref x0), .val (.int x1), .val (.int x2)] [] := by first | (simp [entryFrame, mkF, argsToLocals, Value.category]; done) | rfl
def Q6p (Z : State) (dd : Addr) (n i d : Int32) (k : Nat) (fdd : Nat → Value) (h0 : Heap) (n0 : Nat) (v : Option Value) (h : Heap) (L : List Loc) : Prop := v = some (.int ((1 : Int32) <<< (d &&& 31))) ∧ Fr n0 L ∧ h = h0
set_option maxRecDepth 65536 in
set_option maxHeartbeats 40000000 in
theorem rm6p (l : Launch) (Z : State) (a0 : Array Value) (hw : ∀ d ∈ tables_1, d.before a0 Z = true) (ws : List Jvm.Cond) (dd : Addr) (n i d : Int32) (k : Nat) (fdd : Nat → Value) (h0 : Heap) (n0 : Nat) (Z0 : n0 ≤ h0.size) (Ad : OwnA Z h0 dd .int 4 fdd) (h1 : i < n) (hk : ¬ i < 0 ∧ i.toNatClampNeg = k ∧ k < 4) (v1 : fdd k = .int d) :
    MetFree l (⟨"com/example/etsinta/etsinta/search/BestRankPinLaw", "bit", "([III)I"⟩ : MethodName) (head1 (Jvm.Cond.code (⟨"com/example/etsinta/etsinta/search/BestRankPinLaw", "bit", "([III)I"⟩ : MethodName) method_4_code 3 (some .int) :: ws) ({ frames := 0, cells := 0, slots := 0, locals := 0 } : Room)) (fun aa_ U => aa_ = #[(.ref dd), (.int n), (.int i)] ∧ Z.Warmed39 U.vm ∧ U.heap = h0) (fun _ _ _ _ _ => True) (fun _ U o U' => ∃ v L, o = .returned v ∧ Q6p Z dd n i d k fdd h0 n0 v U'.heap L ∧ FrameEnd U o U' L ({ frames := 0, cells := 0, slots := 0, locals := 0 } : Room).cells ({ frames := 0, cells := 0, slots := 0, locals := 0 } : Room).slots) := by
  refine own_met (Q := fun v h L => Q6p Z dd n i d k fdd h0 n0 v h L) (plainFor_of_name pn_1) ?_
  intro p e s m below meth c s₁ hx hby hml hret hlk hown hnm hZ X0 e0
  have N0 := Fr.nil n0
  rw [ef_6p m dd n i]
  show OwnG p e below s _ _ _ (s₁.setTop (mkF m 0 #[.val (.ref dd), .val (.int n), .val (.int i)] []))
  refine own_by (fun _ K => XS.iloadN X0.here hx rfl (hb hby d6_0) rfl K) ?_
  show OwnG p e below s _ _ _ (s₁.setTop (mkF m 1 _ [(.int i)]))
  refine own_by (fun _ K => XS.iloadN X0.here hx rfl (hb hby d6_1) rfl K) ?_
  show OwnG p e below s _ _ _ (s₁.setTop (mkF m 2 _ [(.int n), (.int i)]))
  refine own_by (fun _ K => XS.icmpYes X0.here hx rfl (pc0 := 2) (pc' := 7) rfl (hb hby d6_2) rfl (tlt h1).1 (by decide) (by decide) K) ?_
  show OwnG p e below s _ _ _ (s₁.setTop (mkF m 7 _ []))
  refine own_by (fun _ K => XS.iconst X0.here hx rfl (hb hby d6_7) K) ?_
  show OwnG p e below s _ _ _ (s₁.setTop (mkF m 8 _ [(.int 1)]))
  refine own_by (fun _ K => XS.aloadN X0.here hx rfl (hb hby d6_8) rfl rfl K) ?_
  show OwnG p e below s _ _ _ (s₁.setTop (mkF m 9 _ [(.ref dd), (.int 1)]))
  refine own_by (fun _ K => XS.iloadN X0.here hx rfl (hb hby d6_9) rfl K) ?_
  show OwnG p e below s _ _ _ (s₁.setTop (mkF m 10 _ [(.int i), (.ref dd), (.int 1)]))
  refine own_by (fun _ K => own_ldI X0 hx hZ e0 Ad (j := i) (i := k) hk (v := (.int d)) v1 (g := (mkF m 10 #[.val (.ref dd), .val (.int n), .val (.int i)] [(.int i), (.ref dd), (.int 1)])) rfl rfl (hb hby d6_10) _ K) ?_
  show OwnG p e below s _ _ _ (s₁.setTop (mkF m 11 _ [(.int d), (.int 1)]))
  refine own_by (fun _ K => XS.ishl X0.here hx rfl (hb hby d6_11) rfl K) ?_
  show OwnG p e below s _ _ _ (s₁.setTop (mkF m 12 _ [(.int ((1 : Int32) <<< (d &&& 31)))]))
  exact own_outI X0 hx hret hlk (hb hby d6_12) (⟨rfl, N0, e0⟩) (by decide) (by decide)
theorem d7_0 : decode method_5_code 0 = .ok (.iload 4, 2) := by decide +kernel
theorem d7_2 : decode method_5_code 2 = .ok (.iconst 1, 1) := by decide +kernel
theorem d7_3 : decode method_5_code 3 = .ok (.iadd, 1) := by decide +kernel
theorem d7_4 : decode method_5_code 4 = .ok (.iload_n 3, 1) := by decide +kernel
theorem d7_5 : decode method_5_code 5 = .ok (.if_icmp .lt 5, 3) := by decide +kernel
theorem d7_8 : decode method_5_code 8 = .ok (.iconst 1, 1) := by decide +kernel
theorem d7_9 : decode method_5_code 9 = .ok (.ireturn, 1) := by decide +kernel
theorem d7_10 : decode method_5_code 10 = .ok (.aload_n 0, 1) := by decide +kernel
theorem d7_11 : decode method_5_code 11 = .ok (.aload_n 1, 1) := by decide +kernel
theorem d7_12 : decode method_5_code 12 = .ok (.iload 4, 2) := by decide +kernel
theorem d7_14 : decode method_5_code 14 = .ok (.iaload, 1) := by decide +kernel
theorem d7_15 : decode method_5_code 15 = .ok (.aload_n 2, 1) := by decide +kernel
theorem d7_16 : decode method_5_code 16 = .ok (.iload 4, 2) := by decide +kernel
theorem d7_18 : decode method_5_code 18 = .ok (.daload, 1) := by decide +kernel
theorem d7_19 : decode method_5_code 19 = .ok (.aload_n 1, 1) := by decide +kernel
theorem d7_20 : decode method_5_code 20 = .ok (.iload 4, 2) := by decide +kernel
theorem d7_22 : decode method_5_code 22 = .ok (.iconst 1, 1) := by decide +kernel
theorem d7_23 : decode method_5_code 23 = .ok (.iadd, 1) := by decide +kernel
theorem d7_24 : decode method_5_code 24 = .ok (.iaload, 1) := by decide +kernel
theorem d7_25 : decode method_5_code 25 = .ok (.aload_n 2, 1) := by decide +kernel
theorem d7_26 : decode method_5_code 26 = .ok (.iload 4, 2) := by decide +kernel
theorem d7_28 : decode method_5_code 28 = .ok (.iconst 1, 1) := by decide +kernel
theorem d7_29 : decode method_5_code 29 = .ok (.iadd, 1) := by decide +kernel
theorem d7_30 : decode method_5_code 30 = .ok (.daload, 1) := by decide +kernel
theorem d7_31 : decode method_5_code 31 = .ok (.invokestatic 7, 3) := by decide +kernel
theorem d7_34 : decode method_5_code 34 = .ok (.ifCond .ne 7, 3) := by decide +kernel
theorem d7_37 : decode method_5_code 37 = .ok (.iconst 1, 1) := by decide +kernel
theorem d7_38 : decode method_5_code 38 = .ok (.goto 4, 3) := by decide +kernel
theorem d7_41 : decode method_5_code 41 = .ok (.iconst 0, 1) := by decide +kernel
theorem d7_42 : decode method_5_code 42 = .ok (.ireturn, 1) := by decide +kernel
theorem pd_5 : parseMethodDescriptor "([IIDID)Z" = some ⟨[(.array .int), .int, .double, .int, .double], some .boolean⟩ := by decide +kernel
theorem ef_7z (m : MethodId) (x0 : Addr) (x1 : Addr) (x2 : Addr) (x3 : Int32) (x4 : Int32) : entryFrame m #[(.ref x0), (.ref x1), (.ref x2), (.int x3), (.int x4)] 5 = mkF m 0 #[.val (.ref x0), .val (.ref x1), .val (.ref x2), .val (.int x3), .val (.int x4)] [] := by first | (simp [entryFrame, mkF, argsToLocals, Value.category]; done) | rfl
def Q7z (Z : State) (pa dd cc : Addr) (n i : Int32) (h0 : Heap) (n0 : Nat) (v : Option Value) (h : Heap) (L : List Loc) : Prop := v = some (.int 1) ∧ Fr n0 L ∧ h = h0
set_option maxRecDepth 65536 in
set_option maxHeartbeats 40000000 in
theorem rm7z (l : Launch) (Z : State) (a0 : Array Value) (hw : ∀ d ∈ tables_1, d.before a0 Z = true) (ws : List Jvm.Cond) (pa dd cc : Addr) (n i : Int32) (h0 : Heap) (n0 : Nat) (Z0 : n0 ≤ h0.size) (h1 : ¬ i + (1 : Int32) < n) :
    MetFree l (⟨"com/example/etsinta/etsinta/search/BestRankPinLaw", "ordered", "([I[I[DII)Z"⟩ : MethodName) (head1 (Jvm.Cond.code (⟨"com/example/etsinta/etsinta/search/BestRankPinLaw", "ordered", "([I[I[DII)Z"⟩ : MethodName) method_5_code 5 (some .boolean) :: ws) ({ frames := 0, cells := 0, slots := 0, locals := 0 } : Room)) (fun aa_ U => aa_ = #[(.ref pa), (.ref dd), (.ref cc), (.int n), (.int i)] ∧ Z.Warmed39 U.vm ∧ U.heap = h0) (fun _ _ _ _ _ => True) (fun _ U o U' => ∃ v L, o = .returned v ∧ Q7z Z pa dd cc n i h0 n0 v U'.heap L ∧ FrameEnd U o U' L ({ frames := 0, cells := 0, slots := 0, locals := 0 } : Room).cells ({ frames := 0, cells := 0, slots := 0, locals := 0 } : Room).slots) := by
  refine own_met (Q := fun v h L => Q7z Z pa dd cc n i h0 n0 v h L) (plainFor_of_name pn_1) ?_
  intro p e s m below meth c s₁ hx hby hml hret hlk hown hnm hZ X0 e0
  have N0 := Fr.nil n0
  rw [ef_7z m pa dd cc n i]
  show OwnG p e below s _ _ _ (s₁.setTop (mkF m 0 #[.val (.ref pa), .val (.ref dd), .val (.ref cc), .val (.int n), .val (.int i)] []))
  refine own_by (fun _ K => XS.iload X0.here hx rfl (hb hby d7_0) rfl K) ?_
  show OwnG p e below s _ _ _ (s₁.setTop (mkF m 2 _ [(.int i)]))
  refine own_by (fun _ K => XS.iconst X0.here hx rfl (hb hby d7_2) K) ?_
  show OwnG p e below s _ _ _ (s₁.setTop (mkF m 3 _ [(.int 1), (.int i)]))
  refine own_by (fun _ K => XS.iadd X0.here hx rfl (hb hby d7_3) rfl K) ?_
  show OwnG p e below s _ _ _ (s₁.setTop (mkF m 4 _ [(.int (i + (1 : Int32)))]))
  refine own_by (fun _ K => XS.iloadN X0.here hx rfl (hb hby d7_4) rfl K) ?_
  show OwnG p e below s _ _ _ (s₁.setTop (mkF m 5 _ [(.int n), (.int (i + (1 : Int32)))]))
  refine own_by (fun _ K => XS.icmpNo X0.here hx rfl (hb hby d7_5) rfl (flt h1).1 K) ?_
  show OwnG p e below s _ _ _ (s₁.setTop (mkF m 8 _ []))
  refine own_by (fun _ K => XS.iconst X0.here hx rfl (hb hby d7_8) K) ?_
  show OwnG p e below s _ _ _ (s₁.setTop (mkF m 9 _ [(.int 1)]))
  exact own_outN X0 hx hret (by simp) hlk (hb hby d7_9) rfl (⟨rfl, N0, e0⟩) (by decide) (by decide)
theorem ef_7p (m : MethodId) (x0 : Addr) (x1 : Addr) (x2 : Addr) (x3 : Int32) (x4 : Int32) : entryFrame m #[(.ref x0), (.ref x1), (.ref x2), (.int x3), (.int x4)] 5 = mkF m 0 #[.val (.ref x0), .val (.ref x1), .val (.ref x2), .val (.int x3), .val (.int x4)] [] := by first | (simp [entryFrame, mkF, argsToLocals, Value.category]; done) | rfl
def Q7p (Z : State) (sv pl : Int32 → Int32) (pa dd cc : Addr) (n i a b : Int32) (k : Nat) (fdd fcc fp : Nat → Value) (h0 : Heap) (n0 : Nat) (v : Option Value) (h : Heap) (L : List Loc) : Prop := v = some (.int 1) ∧ Fr n0 L ∧ h = h0
set_option maxRecDepth 65536 in
set_option maxHeartbeats 40000000 in
theorem rm7p (l : Launch) (Z : State) (a0 : Array Value) (hw : ∀ d ∈ tables_1, d.before a0 Z = true) (ws : List Jvm.Cond) (sv pl : Int32 → Int32) (pa dd cc : Addr) (n i a b : Int32) (k : Nat) (fdd fcc fp : Nat → Value) (h0 : Heap) (n0 : Nat) (Z0 : n0 ≤ h0.size) (Ap : OwnA Z h0 pa .int 4 fp) (Ad : OwnA Z h0 dd .int 4 fdd) (Ac : OwnA Z h0 cc .double 4 fcc) (hP : own_P pl fp) (h1 : i + (1 : Int32) < n) (hk : ¬ i < 0 ∧ i.toNatClampNeg = k ∧ k < 4) (hk2 : ¬ i + (1 : Int32) < 0 ∧ (i + (1 : Int32)).toNatClampNeg = k + 1 ∧ k + 1 < 4) (k_a : own_ok a) (k_b : own_ok b) (v1 : fdd k = .int a) (v2 : fcc k = .double (FP.i2d (sv a))) (v3 : fdd (k + 1) = .int b) (v4 : fcc (k + 1) = .double (FP.i2d (sv b))) (hK : ¬ own_K sv pl a < own_K sv pl b) :
    MetFree l (⟨"com/example/etsinta/etsinta/search/BestRankPinLaw", "ordered", "([I[I[DII)Z"⟩ : MethodName) (head1 (Jvm.Cond.code (⟨"com/example/etsinta/etsinta/search/BestRankPinLaw", "ordered", "([I[I[DII)Z"⟩ : MethodName) method_5_code 5 (some .boolean) :: ws) ({ frames := 1, cells := 0, slots := 0, locals := 18 } : Room)) (fun aa_ U => aa_ = #[(.ref pa), (.ref dd), (.ref cc), (.int n), (.int i)] ∧ Z.Warmed39 U.vm ∧ U.heap = h0) (fun _ _ _ _ _ => True) (fun _ U o U' => ∃ v L, o = .returned v ∧ Q7p Z sv pl pa dd cc n i a b k fdd fcc fp h0 n0 v U'.heap L ∧ FrameEnd U o U' L ({ frames := 1, cells := 0, slots := 0, locals := 18 } : Room).cells ({ frames := 1, cells := 0, slots := 0, locals := 18 } : Room).slots) := by
  refine own_met (Q := fun v h L => Q7p Z sv pl pa dd cc n i a b k fdd fcc fp h0 n0 v h L) (plainFor_of_name pn_1) ?_
  intro p e s m below meth c s₁ hx hby hml hret hlk hown hnm hZ X0 e0
  have N0 := Fr.nil n0
  rw [ef_7p m pa dd cc n i]
  show OwnG p e below s _ _ _ (s₁.setTop (mkF m 0 #[.val (.ref pa), .val (.ref dd), .val (.ref cc), .val (.int n), .val (.int i)] []))
  refine own_by (fun _ K => XS.iload X0.here hx rfl (hb hby d7_0) rfl K) ?_
  show OwnG p e below s _ _ _ (s₁.setTop (mkF m 2 _ [(.int i)]))
  refine own_by (fun _ K => XS.iconst X0.here hx rfl (hb hby d7_2) K) ?_
  show OwnG p e below s _ _ _ (s₁.setTop (mkF m 3 _ [(.int 1), (.int i)]))
  refine own_by (fun _ K => XS.iadd X0.here hx rfl (hb hby d7_3) rfl K) ?_
  show OwnG p e below s _ _ _ (s₁.setTop (mkF m 4 _ [(.int (i + (1 : Int32)))]))
  refine own_by (fun _ K => XS.iloadN X0.here hx rfl (hb hby d7_4) rfl K) ?_
  show OwnG p e below s _ _ _ (s₁.setTop (mkF m 5 _ [(.int n), (.int (i + (1 : Int32)))]))
  refine own_by (fun _ K => XS.icmpYes X0.here hx rfl (pc0 := 5) (pc' := 10) rfl (hb hby d7_5) rfl (tlt h1).1 (by decide) (by decide) K) ?_
  show OwnG p e below s _ _ _ (s₁.setTop (mkF m 10 _ []))
  refine own_by (fun _ K => XS.aloadN X0.here hx rfl (hb hby d7_10) rfl rfl K) ?_
  show OwnG p e below s _ _ _ (s₁.setTop (mkF m 11 _ [(.ref pa)]))
  refine own_by (fun _ K => XS.aloadN X0.here hx rfl (hb hby d7_11) rfl rfl K) ?_
  show OwnG p e below s _ _ _ (s₁.setTop (mkF m 12 _ [(.ref dd), (.ref pa)]))
  refine own_by (fun _ K => XS.iload X0.here hx rfl (hb hby d7_12) rfl K) ?_
  show OwnG p e below s _ _ _ (s₁.setTop (mkF m 14 _ [(.int i), (.ref dd), (.ref pa)]))
  refine own_by (fun _ K => own_ldI X0 hx hZ e0 Ad (j := i) (i := k) hk (v := (.int a)) v1 (g := (mkF m 14 #[.val (.ref pa), .val (.ref dd), .val (.ref cc), .val (.int n), .val (.int i)] [(.int i), (.ref dd), (.ref pa)])) rfl rfl (hb hby d7_14) _ K) ?_
  show OwnG p e below s _ _ _ (s₁.setTop (mkF m 15 _ [(.int a), (.ref pa)]))
  refine own_by (fun _ K => XS.aloadN X0.here hx rfl (hb hby d7_15) rfl rfl K) ?_
  show OwnG p e below s _ _ _ (s₁.setTop (mkF m 16 _ [(.ref cc), (.int a), (.ref pa)]))
  refine own_by (fun _ K => XS.iload X0.here hx rfl (hb hby d7_16) rfl K) ?_
  show OwnG p e below s _ _ _ (s₁.setTop (mkF m 18 _ [(.int i), (.ref cc), (.int a), (.ref pa)]))
  refine own_by (fun _ K => own_ldD X0 hx hZ e0 Ac (j := i) (i := k) hk (v := (.double (FP.i2d (sv a)))) v2 (g := (mkF m 18 #[.val (.ref pa), .val (.ref dd), .val (.ref cc), .val (.int n), .val (.int i)] [(.int i), (.ref cc), (.int a), (.ref pa)])) rfl rfl (hb hby d7_18) _ K) ?_
  show OwnG p e below s _ _ _ (s₁.setTop (mkF m 19 _ [(.double (FP.i2d (sv a))), (.int a), (.ref pa)]))
  refine own_by (fun _ K => XS.aloadN X0.here hx rfl (hb hby d7_19) rfl rfl K) ?_
  show OwnG p e below s _ _ _ (s₁.setTop (mkF m 20 _ [(.ref dd), (.double (FP.i2d (sv a))), (.int a), (.ref pa)]))
  refine own_by (fun _ K => XS.iload X0.here hx rfl (hb hby d7_20) rfl K) ?_
  show OwnG p e below s _ _ _ (s₁.setTop (mkF m 22 _ [(.int i), (.ref dd), (.double (FP.i2d (sv a))), (.int a), (.ref pa)]))
  refine own_by (fun _ K => XS.iconst X0.here hx rfl (hb hby d7_22) K) ?_
  show OwnG p e below s _ _ _ (s₁.setTop (mkF m 23 _ [(.int 1), (.int i), (.ref dd), (.double (FP.i2d (sv a))), (.int a), (.ref pa)]))
  refine own_by (fun _ K => XS.iadd X0.here hx rfl (hb hby d7_23) rfl K) ?_
  show OwnG p e below s _ _ _ (s₁.setTop (mkF m 24 _ [(.int (i + (1 : Int32))), (.ref dd), (.double (FP.i2d (sv a))), (.int a), (.ref pa)]))
  refine own_by (fun _ K => own_ldI X0 hx hZ e0 Ad (j := (i + (1 : Int32))) (i := k + 1) hk2 (v := (.int b)) v3 (g := (mkF m 24 #[.val (.ref pa), .val (.ref dd), .val (.ref cc), .val (.int n), .val (.int i)] [(.int (i + (1 : Int32))), (.ref dd), (.double (FP.i2d (sv a))), (.int a), (.ref pa)])) rfl rfl (hb hby d7_24) _ K) ?_
  show OwnG p e below s _ _ _ (s₁.setTop (mkF m 25 _ [(.int b), (.double (FP.i2d (sv a))), (.int a), (.ref pa)]))
  refine own_by (fun _ K => XS.aloadN X0.here hx rfl (hb hby d7_25) rfl rfl K) ?_
  show OwnG p e below s _ _ _ (s₁.setTop (mkF m 26 _ [(.ref cc), (.int b), (.double (FP.i2d (sv a))), (.int a), (.ref pa)]))
  refine own_by (fun _ K => XS.iload X0.here hx rfl (hb hby d7_26) rfl K) ?_
  show OwnG p e below s _ _ _ (s₁.setTop (mkF m 28 _ [(.int i), (.ref cc), (.int b), (.double (FP.i2d (sv a))), (.int a), (.ref pa)]))
  refine own_by (fun _ K => XS.iconst X0.here hx rfl (hb hby d7_28) K) ?_
  show OwnG p e below s _ _ _ (s₁.setTop (mkF m 29 _ [(.int 1), (.int i), (.ref cc), (.int b), (.double (FP.i2d (sv a))), (.int a), (.ref pa)]))
  refine own_by (fun _ K => XS.iadd X0.here hx rfl (hb hby d7_29) rfl K) ?_
  show OwnG p e below s _ _ _ (s₁.setTop (mkF m 30 _ [(.int (i + (1 : Int32))), (.ref cc), (.int b), (.double (FP.i2d (sv a))), (.int a), (.ref pa)]))
  refine own_by (fun _ K => own_ldD X0 hx hZ e0 Ac (j := (i + (1 : Int32))) (i := k + 1) hk2 (v := (.double (FP.i2d (sv b)))) v4 (g := (mkF m 30 #[.val (.ref pa), .val (.ref dd), .val (.ref cc), .val (.int n), .val (.int i)] [(.int (i + (1 : Int32))), (.ref cc), (.int b), (.double (FP.i2d (sv a))), (.int a), (.ref pa)])) rfl rfl (hb hby d7_30) _ K) ?_
  show OwnG p e below s _ _ _ (s₁.setTop (mkF m 31 _ [(.double (FP.i2d (sv b))), (.int b), (.double (FP.i2d (sv a))), (.int a), (.ref pa)]))
  obtain ⟨_, _, ⟨T1, L1, k1, n1⟩, -, X1, ⟨Lc1, hQ1, l1, y1, z1⟩, st1⟩ := Jvm.LawKit.callS X0 hx (y := (⟨"com/example/etsinta/etsinta/search/BestRankPinLaw", "worse", "([IIDID)Z"⟩ : MethodName)) hown (mvT hZ (own_w hw 77 rfl)) (mvT hZ (own_w hw 78 rfl)) (mvT hZ (own_w hw 34 rfl)) (mvT hZ (own_w hw 79 rfl)) (by decide) (backOf (W := 0) (rm16 l Z a0 hw [] sv pl pa fp a b h0 n0 Z0 Ap hP k_a k_b) hZ (own_w hw 79 rfl) (own_w hw 34 rfl) (by decide) (by decide)) (g := (mkF m 31 #[.val (.ref pa), .val (.ref dd), .val (.ref cc), .val (.int n), .val (.int i)] [(.double (FP.i2d (sv b))), (.int b), (.double (FP.i2d (sv a))), (.int a), (.ref pa)])) rfl (by rw [hml]; rfl) (argsL := [(.ref pa), (.int a), (.double (FP.i2d (sv a))), (.int b), (.double (FP.i2d (sv b)))]) (rest := []) (lenOf pd_5 rfl) rfl (by show 2 * 0 + _ ≤ _; exact Nat.le_of_eq rfl) (hb hby d7_31) (fun _ _ => ⟨rfl, e0, (by decide : 0 + 0 ≤ _), (by decide : 0 + 0 ≤ _)⟩)
  dsimp only [Pt.U, Pt.locs, Pt.cells, Pt.slots] at X1 l1 y1 z1 st1 hQ1
  subst l1 y1 z1
  refine own_by (fun _ K => st1 _ K) ?_
  obtain ⟨rfl, N1q, hh1⟩ := hQ1
  have N1 := Fr.app N0 N1q
  have f2 := Ad
  rw [← hh1] at f2
  have f3 := Ac
  rw [← hh1] at f3
  have f4 := Ap
  rw [← hh1] at f4
  have sz1 : n0 ≤ T1.heap.size := by rw [hh1]; exact Z0
  show OwnG p e below s _ _ _ (T1.setTop (mkF m 34 _ [(.int (own_b (own_K sv pl a < own_K sv pl b)))]))
  rw [own_bF hK]
  show OwnG p e below s _ _ _ (T1.setTop (mkF m 34 #[.val (.ref pa), .val (.ref dd), .val (.ref cc), .val (.int n), .val (.int i)] [(.int 0)]))
  refine own_by (fun _ K => XS.ifNo X1.here hx rfl (hb hby d7_34) rfl ((if0 _ _).trans (teq (by decide)).2) K) ?_
  show OwnG p e below s _ _ _ (T1.setTop (mkF m 37 _ []))
  refine own_by (fun _ K => XS.iconst X1.here hx rfl (hb hby d7_37) K) ?_
  show OwnG p e below s _ _ _ (T1.setTop (mkF m 38 _ [(.int 1)]))
  refine own_by (fun _ K => XS.goto X1.here hx rfl (pc0 := 38) (pc' := 42) rfl (hb hby d7_38) (by decide) (by decide) K) ?_
  show OwnG p e below s _ _ _ (T1.setTop (mkF m 42 _ [(.int 1)]))
  exact own_outN X1 hx hret (by simp) hlk (hb hby d7_42) rfl (⟨rfl, N1, (Eq.trans (rfl : T1.heap = T1.heap) hh1)⟩) (by decide) (by decide)
theorem d1_0 : decode prog_26_method_1_code 0 = .ok (.aload_n 0, 1) := by decide +kernel
theorem d1_1 : decode prog_26_method_1_code 1 = .ok (.invokespecial 1, 3) := by decide +kernel
theorem d1_4 : decode prog_26_method_1_code 4 = .ok (.aload_n 0, 1) := by decide +kernel
theorem d1_5 : decode prog_26_method_1_code 5 = .ok (.bipush 16, 2) := by decide +kernel
theorem d1_7 : decode prog_26_method_1_code 7 = .ok (.newarray .double, 2) := by decide +kernel
theorem d1_9 : decode prog_26_method_1_code 9 = .ok (.putfield 7, 3) := by decide +kernel
theorem d1_12 : decode prog_26_method_1_code 12 = .ok (.aload_n 0, 1) := by decide +kernel
theorem d1_13 : decode prog_26_method_1_code 13 = .ok (.bipush 16, 2) := by decide +kernel
theorem d1_15 : decode prog_26_method_1_code 15 = .ok (.newarray .int, 2) := by decide +kernel
theorem d1_17 : decode prog_26_method_1_code 17 = .ok (.putfield 13, 3) := by decide +kernel
theorem d1_20 : decode prog_26_method_1_code 20 = .ok (.aload_n 0, 1) := by decide +kernel
theorem d1_21 : decode prog_26_method_1_code 21 = .ok (.iload_n 1, 1) := by decide +kernel
theorem d1_22 : decode prog_26_method_1_code 22 = .ok (.putfield 17, 3) := by decide +kernel
theorem d1_25 : decode prog_26_method_1_code 25 = .ok (.aload_n 0, 1) := by decide +kernel
theorem d1_26 : decode prog_26_method_1_code 26 = .ok (.aload_n 2, 1) := by decide +kernel
theorem d1_27 : decode prog_26_method_1_code 27 = .ok (.putfield 21, 3) := by decide +kernel
theorem d1_30 : decode prog_26_method_1_code 30 = .ok (.return_, 1) := by decide +kernel
theorem pd_6 : parseMethodDescriptor "()V" = some ⟨[], none⟩ := by decide +kernel
theorem ef_1 (m : MethodId) (x0 : Addr) (x1 : Int32) (x2 : Addr) : entryFrame m #[(.ref x0), (.int x1), (.ref x2)] 3 = mkF m 0 #[.val (.ref x0), .val (.int x1), .val (.ref x2)] [] := by first | (simp [entryFrame, mkF, argsToLocals, Value.category]; done) | rfl
def Q1 (Z : State) (ob pa : Addr) (fp : Nat → Value) (h0 : Heap) (n0 : Nat) (v : Option Value) (h : Heap) (L : List Loc) : Prop := v = none ∧ Fr n0 L ∧ Keep h0 h [ob] ∧ ∃ sa da fd fs, own_S Z h ob sa da pa 0 fd fs fp ∧ sa ≠ da ∧ h0.size ≤ sa ∧ h0.size ≤ da
set_option maxRecDepth 65536 in
set_option maxHeartbeats 40000000 in
theorem rm1 (l : Launch) (Z : State) (a0 : Array Value) (hw : ∀ d ∈ tables_1, d.before a0 Z = true) (ws : List Jvm.Cond) (ob pa : Addr) (fp : Nat → Value) (h0 : Heap) (n0 : Nat) (Z0 : n0 ≤ h0.size) (Ex : Exa Z h0 ob "com/example/etsinta/etsinta/search/Best") (Fscores : Fld Z h0 ob "com/example/etsinta/etsinta/search/Best" "scores" "[D" .null) (Fdocuments : Fld Z h0 ob "com/example/etsinta/etsinta/search/Best" "documents" "[I" .null) (Fdepth : Fld Z h0 ob "com/example/etsinta/etsinta/search/Best" "depth" "I" (.int 0)) (FdocnoPlaces : Fld Z h0 ob "com/example/etsinta/etsinta/search/Best" "docnoPlaces" "[I" .null) (Fsize : Fld Z h0 ob "com/example/etsinta/etsinta/search/Best" "size" "I" (.int 0)) (Ap : OwnA Z h0 pa .int 4 fp) (g1 : n0 ≤ ob) (nop : ob ≠ pa) :
    MetFree l (⟨"com/example/etsinta/etsinta/search/Best", "<init>", "(I[I)V"⟩ : MethodName) (head1 (Jvm.Cond.code (⟨"com/example/etsinta/etsinta/search/Best", "<init>", "(I[I)V"⟩ : MethodName) prog_26_method_1_code 3 none :: ws) ({ frames := 1, cells := 2, slots := 32, locals := 12 } : Room)) (fun aa_ U => aa_ = #[(.ref ob), (.int 4), (.ref pa)] ∧ Z.Warmed39 U.vm ∧ U.heap = h0) (fun _ _ _ _ _ => True) (fun _ U o U' => ∃ v L, o = .returned v ∧ Q1 Z ob pa fp h0 n0 v U'.heap L ∧ FrameEnd U o U' L ({ frames := 1, cells := 2, slots := 32, locals := 12 } : Room).cells ({ frames := 1, cells := 2, slots := 32, locals := 12 } : Room).slots) := by
  refine own_met (Q := fun v h L => Q1 Z ob pa fp h0 n0 v h L) (plainFor_of_name pn_0) ?_
  intro p e s m below meth c s₁ hx hby hml hret hlk hown hnm hZ X0 e0
  have N0 := Fr.nil n0
  rw [ef_1 m ob (4 : Int32) pa]
  show OwnG p e below s _ _ _ (s₁.setTop (mkF m 0 #[.val (.ref ob), .val (.int 4), .val (.ref pa)] []))
  refine own_by (fun _ K => XS.aloadN X0.here hx rfl (hb hby d1_0) rfl rfl K) ?_
  show OwnG p e below s _ _ _ (s₁.setTop (mkF m 1 _ [(.ref ob)]))
  obtain ⟨T1, X1, e1, st1⟩ := initO X0 hx hZ hown (own_w hw 9 rfl) (own_w hw 10 rfl) (own_w hw 11 rfl) e0 (g := (mkF m 1 #[.val (.ref ob), .val (.int 4), .val (.ref pa)] [(.ref ob)])) rfl (by rw [hml]; rfl) rfl (hb hby d1_1) (by decide) (W := 0) (by show 2 * 0 + _ ≤ _; exact Nat.le_of_eq rfl) (by decide)
  refine own_by (fun _ K => st1 _ K) ?_
  show OwnG p e below s _ _ _ (T1.setTop (mkF m 4 _ []))
  refine own_by (fun _ K => XS.aloadN X1.here hx rfl (hb hby d1_4) rfl rfl K) ?_
  show OwnG p e below s _ _ _ (T1.setTop (mkF m 5 _ [(.ref ob)]))
  refine own_by (fun _ K => XS.bipush X1.here hx rfl (hb hby d1_5) K) ?_
  show OwnG p e below s _ _ _ (T1.setTop (mkF m 7 _ [(.int 16), (.ref ob)]))
  obtain ⟨T2, h2, k2, X2, e2, E2, A2, st2⟩ := newP X1 hx hZ (own_w hw 1 rfl) e1 (g := (mkF m 7 #[.val (.ref ob), .val (.int 4), .val (.ref pa)] [(.int 16), (.ref ob)])) rfl (hb hby d1_7) rfl (by decide) (cap := 16) (by decide) (by decide) (by decide) (by decide)
  obtain ⟨sa, g2⟩ : ∃ z, z = h0.size := ⟨_, rfl⟩
  rw [← g2] at A2 st2
  have ne3 : ob ≠ sa := fun q => absurd Ex.lt (by rw [q, g2]; exact Nat.lt_irrefl _)
  have ne4 : pa ≠ sa := fun q => absurd Ap.lt (by rw [q, g2]; exact Nat.lt_irrefl _)
  have gg_sa : n0 ≤ sa := by rw [g2]; exact Z0
  have gh_sa : h0.size ≤ sa := by rw [g2]; exact (Keep.refl h0 [ob]).1
  have sz2 : n0 ≤ h2.size := Nat.le_trans Z0 E2.1
  refine own_by (fun _ K => st2 _ K) ?_
  have f5 := Exa.ext E2 Ex
  have f6 := Fld.ext E2 Fscores
  have f7 := Fld.ext E2 Fdocuments
  have f8 := Fld.ext E2 Fdepth
  have f9 := Fld.ext E2 FdocnoPlaces
  have f10 := Fld.ext E2 Fsize
  have f11 := OwnA.ext E2 Ap
  have f12 := Keep.ext (Keep.refl h0 [ob]) E2
  have f13 : OwnA Z h2 sa .double 16 (fun _ => (defaultValue .double)) := OwnA.new A2 (n := 16) (by decide) rfl
  show OwnG p e below s _ _ _ (T2.setTop (mkF m 9 _ [(.ref sa), (.ref ob)]))
  obtain ⟨T14, h14, X14, e14, W14, st14⟩ := putF X2 hx hZ hown (host := "") (Or.inl (own_w hw 12 rfl)) Via.refl e2 f6 f5 (Or.inl (own_w hw 13 rfl)) (own_w hw 4 rfl) (ty := (.array .double)) (by decide) rfl rfl (g := (mkF m 9 #[.val (.ref ob), .val (.int 4), .val (.ref pa)] [(.ref sa), (.ref ob)])) rfl rfl (hb hby d1_9)
  refine own_by (fun _ K => st14 _ K) ?_
  have f15 := Exa.wr W14 f5
  have f17 := Fld.other W14 f7 (Or.inr (slot_ne (Or.inl (own_w hw 15 rfl)) (Or.inl (own_w hw 13 rfl)) (by decide) (t := (.array .int)) (t' := (.array .double)) (by decide) (by decide)))
  have f18 := Fld.other W14 f8 (Or.inr (slot_ne (Or.inr (own_w hw 17 rfl)) (Or.inl (own_w hw 13 rfl)) (by decide) (t := .int) (t' := (.array .double)) (by decide) (by decide)))
  have f19 := Fld.other W14 f9 (Or.inr (slot_ne (Or.inr (own_w hw 19 rfl)) (Or.inl (own_w hw 13 rfl)) (by decide) (t := (.array .int)) (t' := (.array .double)) (by decide) (by decide)))
  have f20 := Fld.other W14 f10 (Or.inr (slot_ne (Or.inl (own_w hw 26 rfl)) (Or.inl (own_w hw 13 rfl)) (by decide) (t := .int) (t' := (.array .double)) (by decide) (by decide)))
  have f21 := OwnA.other W14 f11 (Ne.symm nop)
  have f22 := Keep.wr f12 W14 (Or.inl (by simp))
  have f23 := OwnA.other W14 f13 (Ne.symm ne3)
  have f24 := Fld.same W14 f6
  have N14 := Fr.snoc X14 N0 g1
  have sz14 : n0 ≤ h14.size := by rw [W14.size]; exact sz2
  show OwnG p e below s _ _ _ (T14.setTop (mkF m 12 _ []))
  refine own_by (fun _ K => XS.aloadN X14.here hx rfl (hb hby d1_12) rfl rfl K) ?_
  show OwnG p e below s _ _ _ (T14.setTop (mkF m 13 _ [(.ref ob)]))
  refine own_by (fun _ K => XS.bipush X14.here hx rfl (hb hby d1_13) K) ?_
  show OwnG p e below s _ _ _ (T14.setTop (mkF m 15 _ [(.int 16), (.ref ob)]))
  obtain ⟨T25, h25, k25, X25, e25, E25, A25, st25⟩ := newP X14 hx hZ (own_w hw 2 rfl) e14 (g := (mkF m 15 #[.val (.ref ob), .val (.int 4), .val (.ref pa)] [(.int 16), (.ref ob)])) rfl (hb hby d1_15) rfl (by decide) (cap := 16) (by decide) (by decide) (by decide) (by decide)
  obtain ⟨da, g25⟩ : ∃ z, z = h14.size := ⟨_, rfl⟩
  rw [← g25] at A25 st25
  have ne26 : ob ≠ da := fun q => absurd f15.lt (by rw [q, g25]; exact Nat.lt_irrefl _)
  have ne27 : pa ≠ da := fun q => absurd f21.lt (by rw [q, g25]; exact Nat.lt_irrefl _)
  have ne28 : sa ≠ da := fun q => absurd f23.lt (by rw [q, g25]; exact Nat.lt_irrefl _)
  have gg_da : n0 ≤ da := by rw [g25]; exact sz14
  have gh_da : h0.size ≤ da := by rw [g25]; exact f22.1
  have sz25 : n0 ≤ h25.size := Nat.le_trans sz14 E25.1
  refine own_by (fun _ K => st25 _ K) ?_
  have f29 := Exa.ext E25 f15
  have f30 := Fld.ext E25 f24
  have f31 := Fld.ext E25 f17
  have f32 := Fld.ext E25 f18
  have f33 := Fld.ext E25 f19
  have f34 := Fld.ext E25 f20
  have f35 := OwnA.ext E25 f21
  have f36 := Keep.ext f22 E25
  have f37 := OwnA.ext E25 f23
  have f38 : OwnA Z h25 da .int 16 (fun _ => (defaultValue .int)) := OwnA.new A25 (n := 16) (by decide) rfl
  show OwnG p e below s _ _ _ (T25.setTop (mkF m 17 _ [(.ref da), (.ref ob)]))
  obtain ⟨T39, h39, X39, e39, W39, st39⟩ := putF X25 hx hZ hown (host := "") (Or.inl (own_w hw 14 rfl)) Via.refl e25 f31 f29 (Or.inl (own_w hw 15 rfl)) (own_w hw 4 rfl) (ty := (.array .int)) (by decide) rfl rfl (g := (mkF m 17 #[.val (.ref ob), .val (.int 4), .val (.ref pa)] [(.ref da), (.ref ob)])) rfl rfl (hb hby d1_17)
  refine own_by (fun _ K => st39 _ K) ?_
  have f40 := Exa.wr W39 f29
  have f41 := Fld.other W39 f30 (Or.inr (slot_ne (Or.inl (own_w hw 13 rfl)) (Or.inl (own_w hw 15 rfl)) (by decide) (t := (.array .double)) (t' := (.array .int)) (by decide) (by decide)))
  have f43 := Fld.other W39 f32 (Or.inr (slot_ne (Or.inr (own_w hw 17 rfl)) (Or.inl (own_w hw 15 rfl)) (by decide) (t := .int) (t' := (.array .int)) (by decide) (by decide)))
  have f44 := Fld.other W39 f33 (Or.inr (slot_ne (Or.inr (own_w hw 19 rfl)) (Or.inl (own_w hw 15 rfl)) (by decide) (t := (.array .int)) (t' := (.array .int)) (by decide) (by decide)))
  have f45 := Fld.other W39 f34 (Or.inr (slot_ne (Or.inl (own_w hw 26 rfl)) (Or.inl (own_w hw 15 rfl)) (by decide) (t := .int) (t' := (.array .int)) (by decide) (by decide)))
  have f46 := OwnA.other W39 f35 (Ne.symm nop)
  have f47 := Keep.wr f36 W39 (Or.inl (by simp))
  have f48 := OwnA.other W39 f37 (Ne.symm ne3)
  have f49 := OwnA.other W39 f38 (Ne.symm ne26)
  have f50 := Fld.same W39 f31
  have N39 := Fr.snoc X39 N14 g1
  have sz39 : n0 ≤ h39.size := by rw [W39.size]; exact sz25
  show OwnG p e below s _ _ _ (T39.setTop (mkF m 20 _ []))
  refine own_by (fun _ K => XS.aloadN X39.here hx rfl (hb hby d1_20) rfl rfl K) ?_
  show OwnG p e below s _ _ _ (T39.setTop (mkF m 21 _ [(.ref ob)]))
  refine own_by (fun _ K => XS.iloadN X39.here hx rfl (hb hby d1_21) rfl K) ?_
  show OwnG p e below s _ _ _ (T39.setTop (mkF m 22 _ [(.int 4), (.ref ob)]))
  obtain ⟨T51, h51, X51, e51, W51, st51⟩ := putF X39 hx hZ hown (host := "") (Or.inl (own_w hw 16 rfl)) Via.refl e39 f43 f40 (Or.inr ⟨(own_w hw 17 rfl), rfl, hnm⟩) (own_w hw 4 rfl) (ty := .int) (by decide) rfl rfl (g := (mkF m 22 #[.val (.ref ob), .val (.int 4), .val (.ref pa)] [(.int 4), (.ref ob)])) rfl rfl (hb hby d1_22)
  refine own_by (fun _ K => st51 _ K) ?_
  have f52 := Exa.wr W51 f40
  have f53 := Fld.other W51 f41 (Or.inr (slot_ne (Or.inl (own_w hw 13 rfl)) (Or.inr (own_w hw 17 rfl)) (by decide) (t := (.array .double)) (t' := .int) (by decide) (by decide)))
  have f54 := Fld.other W51 f50 (Or.inr (slot_ne (Or.inl (own_w hw 15 rfl)) (Or.inr (own_w hw 17 rfl)) (by decide) (t := (.array .int)) (t' := .int) (by decide) (by decide)))
  have f56 := Fld.other W51 f44 (Or.inr (slot_ne (Or.inr (own_w hw 19 rfl)) (Or.inr (own_w hw 17 rfl)) (by decide) (t := (.array .int)) (t' := .int) (by decide) (by decide)))
  have f57 := Fld.other W51 f45 (Or.inr (slot_ne (Or.inl (own_w hw 26 rfl)) (Or.inr (own_w hw 17 rfl)) (by decide) (t := .int) (t' := .int) (by decide) (by decide)))
  have f58 := OwnA.other W51 f46 (Ne.symm nop)
  have f59 := Keep.wr f47 W51 (Or.inl (by simp))
  have f60 := OwnA.other W51 f48 (Ne.symm ne3)
  have f61 := OwnA.other W51 f49 (Ne.symm ne26)
  have f62 := Fld.same W51 f43
  have N51 := Fr.snoc X51 N39 g1
  have sz51 : n0 ≤ h51.size := by rw [W51.size]; exact sz39
  show OwnG p e below s _ _ _ (T51.setTop (mkF m 25 _ []))
  refine own_by (fun _ K => XS.aloadN X51.here hx rfl (hb hby d1_25) rfl rfl K) ?_
  show OwnG p e below s _ _ _ (T51.setTop (mkF m 26 _ [(.ref ob)]))
  refine own_by (fun _ K => XS.aloadN X51.here hx rfl (hb hby d1_26) rfl rfl K) ?_
  show OwnG p e below s _ _ _ (T51.setTop (mkF m 27 _ [(.ref pa), (.ref ob)]))
  obtain ⟨T63, h63, X63, e63, W63, st63⟩ := putF X51 hx hZ hown (host := "") (Or.inl (own_w hw 18 rfl)) Via.refl e51 f56 f52 (Or.inr ⟨(own_w hw 19 rfl), rfl, hnm⟩) (own_w hw 4 rfl) (ty := (.array .int)) (by decide) rfl rfl (g := (mkF m 27 #[.val (.ref ob), .val (.int 4), .val (.ref pa)] [(.ref pa), (.ref ob)])) rfl rfl (hb hby d1_27)
  refine own_by (fun _ K => st63 _ K) ?_
  have f64 := Exa.wr W63 f52
  have f65 := Fld.other W63 f53 (Or.inr (slot_ne (Or.inl (own_w hw 13 rfl)) (Or.inr (own_w hw 19 rfl)) (by decide) (t := (.array .double)) (t' := (.array .int)) (by decide) (by decide)))
  have f66 := Fld.other W63 f54 (Or.inr (slot_ne (Or.inl (own_w hw 15 rfl)) (Or.inr (own_w hw 19 rfl)) (by decide) (t := (.array .int)) (t' := (.array .int)) (by decide) (by decide)))
  have f67 := Fld.other W63 f62 (Or.inr (slot_ne (Or.inr (own_w hw 17 rfl)) (Or.inr (own_w hw 19 rfl)) (by decide) (t := .int) (t' := (.array .int)) (by decide) (by decide)))
  have f69 := Fld.other W63 f57 (Or.inr (slot_ne (Or.inl (own_w hw 26 rfl)) (Or.inr (own_w hw 19 rfl)) (by decide) (t := .int) (t' := (.array .int)) (by decide) (by decide)))
  have f70 := OwnA.other W63 f58 (Ne.symm nop)
  have f71 := Keep.wr f59 W63 (Or.inl (by simp))
  have f72 := OwnA.other W63 f60 (Ne.symm ne3)
  have f73 := OwnA.other W63 f61 (Ne.symm ne26)
  have f74 := Fld.same W63 f56
  have N63 := Fr.snoc X63 N51 g1
  have sz63 : n0 ≤ h63.size := by rw [W63.size]; exact sz51
  show OwnG p e below s _ _ _ (T63.setTop (mkF m 30 _ []))
  exact own_outV X63 hx hret hlk (hb hby d1_30) (by show _ ∧ _; rw [e63]; exact ⟨rfl, N63, f71, sa, da, _, _, ⟨f64, f65, f66, f67, f74, f69, f73, f72, f70⟩, ne28, gh_sa, gh_da⟩) (by decide) (by decide)
def own_M (ob sa da pa ss dd cc : Addr) : Prop := ss ≠ ob ∧ ss ≠ sa ∧ ss ≠ da ∧ dd ≠ ob ∧ dd ≠ sa ∧ dd ≠ da ∧ cc ≠ ob ∧ cc ≠ sa ∧ cc ≠ da ∧ ss ≠ dd ∧ pa ≠ dd ∧ ss ≠ cc ∧ pa ≠ cc ∧ dd ≠ cc
theorem pd_7 : parseMethodDescriptor "(I[I)V" = some ⟨[.int, (.array .int)], none⟩ := by decide +kernel
theorem pd_8 : parseMethodDescriptor "()I" = some ⟨[], some .int⟩ := by decide +kernel
theorem pd_9 : parseMethodDescriptor "(I)I" = some ⟨[.int], some .int⟩ := by decide +kernel
theorem pd_10 : parseMethodDescriptor "(I)D" = some ⟨[.int], some .double⟩ := by decide +kernel
theorem pd_11 : parseMethodDescriptor "([I[D[DII)Z" = some ⟨[(.array .int), (.array .double), (.array .double), .int, .int], some .boolean⟩ := by decide +kernel
theorem pd_12 : parseMethodDescriptor "([III)I" = some ⟨[(.array .int), .int, .int], some .int⟩ := by decide +kernel
theorem pd_13 : parseMethodDescriptor "([I[I[DII)Z" = some ⟨[(.array .int), (.array .int), (.array .double), .int, .int], some .boolean⟩ := by decide +kernel
set_option maxRecDepth 65536 in
set_option maxHeartbeats 40000000 in
theorem own_o0 {p : Program} {l : Launch} {e : Env} {s : State} {m : MethodId} {args : Array Value} {below : List Frame} {meth : Method} {c : Code} {T0 : State} {locs : List Loc} {Z : State} {a0 : Array Value} {h0 : Heap} {n0 : Nat} (cnt sb pb mk : Int32) (sv pl : Int32 → Int32) (ob pa ss dd cc : Addr) (fp fss fdd fcc : Nat → Value) (X0 : Stand p l e room_1 s m args below meth c T0 locs (0 + 1 + 1 + 1 + 1 + 1 + 2) (0 + 4 + 4 + 4 + 4 + 5 + 32)) (hx : p.tables.exec = Jvm.exec) (hby : c.code = code) (hml : c.maxLocals = 11) (hret : meth.sig.returnType = some .boolean) (hlk : meth.locks = false) (hown : s.vm.findClass "com/example/etsinta/etsinta/search/BestRankPinLaw" = some m.cls) (hnm : meth.name = "law") (hZ : Z.Warmed39 s.vm) (hw : ∀ d ∈ tables_1, d.before a0 Z = true) (e0 : T0.heap = h0) (N0 : Fr n0 locs) (Z0 : n0 ≤ h0.size) (Ap : OwnA Z h0 pa .int 4 fp) (As : OwnA Z h0 ss .double 4 fss) (Ad : OwnA Z h0 dd .int 4 fdd) (Ac : OwnA Z h0 cc .double 4 fcc) (hP : own_P pl fp) (hss : ∀ d, own_ok d → fss d.toNatClampNeg = .double (FP.i2d (sv d))) :
    OwnG p e below s (fun v h L => v = some (.int 1) ∧ Fr n0 L) room_1.cells room_1.slots (T0.setTop (mkF m 408 #[.val (.int cnt), .val (.int sb), .val (.int pb), .val (.int 0), .val (.ref ss), .val (.ref pa), .val (.ref dd), .val (.ref cc), .val (.ref ob), .val (.int 1), .val (.int mk)] [])) := by
  show OwnG p e below s _ _ _ (T0.setTop (mkF m 408 #[.val (.int cnt), .val (.int sb), .val (.int pb), .val (.int 0), .val (.ref ss), .val (.ref pa), .val (.ref dd), .val (.ref cc), .val (.ref ob), .val (.int 1), .val (.int mk)] []))
  refine own_by (fun _ K => XS.aload X0.here hx rfl (hb hby at_408) rfl rfl K) ?_
  show OwnG p e below s _ _ _ (T0.setTop (mkF m 410 _ [(.ref pa)]))
  refine own_by (fun _ K => XS.aload X0.here hx rfl (hb hby at_410) rfl rfl K) ?_
  show OwnG p e below s _ _ _ (T0.setTop (mkF m 412 _ [(.ref dd), (.ref pa)]))
  refine own_by (fun _ K => XS.aload X0.here hx rfl (hb hby at_412) rfl rfl K) ?_
  show OwnG p e below s _ _ _ (T0.setTop (mkF m 414 _ [(.ref cc), (.ref dd), (.ref pa)]))
  refine own_by (fun _ K => XS.iloadN X0.here hx rfl (hb hby at_414) rfl K) ?_
  show OwnG p e below s _ _ _ (T0.setTop (mkF m 415 _ [(.int 0), (.ref cc), (.ref dd), (.ref pa)]))
  refine own_by (fun _ K => XS.iconst X0.here hx rfl (hb hby at_415) K) ?_
  show OwnG p e below s _ _ _ (T0.setTop (mkF m 416 _ [(.int 0), (.int 0), (.ref cc), (.ref dd), (.ref pa)]))
  obtain ⟨_, _, ⟨T1, L1, k1, n1⟩, -, X1, ⟨Lc1, hQ1, l1, y1, z1⟩, st1⟩ := Jvm.LawKit.callS X0 hx (y := (⟨"com/example/etsinta/etsinta/search/BestRankPinLaw", "ordered", "([I[I[DII)Z"⟩ : MethodName)) hown (mvT hZ (own_w hw 39 rfl)) (mvT hZ (own_w hw 40 rfl)) (mvT hZ (own_w hw 34 rfl)) (mvT hZ (own_w hw 41 rfl)) (by decide) (backOf (W := 0) (rm7z l Z a0 hw [] pa dd cc (0 : Int32) (0 : Int32) h0 n0 Z0 (by decide)) hZ (own_w hw 41 rfl) (own_w hw 34 rfl) (by decide) (by decide)) (g := (mkF m 416 #[.val (.int cnt), .val (.int sb), .val (.int pb), .val (.int 0), .val (.ref ss), .val (.ref pa), .val (.ref dd), .val (.ref cc), .val (.ref ob), .val (.int 1), .val (.int mk)] [(.int 0), (.int 0), (.ref cc), (.ref dd), (.ref pa)])) rfl (by rw [hml]; rfl) (argsL := [(.ref pa), (.ref dd), (.ref cc), (.int 0), (.int 0)]) (rest := []) (lenOf pd_13 rfl) rfl (by show 2 * 0 + _ ≤ _; exact Nat.le_of_eq rfl) (hb hby at_416) (fun _ _ => ⟨rfl, e0, (by decide : 0 + 1 + 1 + 1 + 1 + 1 + 2 + 0 ≤ _), (by decide : 0 + 4 + 4 + 4 + 4 + 5 + 32 + 0 ≤ _)⟩)
  dsimp only [Pt.U, Pt.locs, Pt.cells, Pt.slots] at X1 l1 y1 z1 st1 hQ1
  subst l1 y1 z1
  refine own_by (fun _ K => st1 _ K) ?_
  obtain ⟨rfl, N1q, hh1⟩ := hQ1
  have N1 := Fr.app N0 N1q
  have f2 := Ap
  rw [← hh1] at f2
  have f3 := As
  rw [← hh1] at f3
  have f4 := Ad
  rw [← hh1] at f4
  have f5 := Ac
  rw [← hh1] at f5
  have sz1 : n0 ≤ T1.heap.size := by rw [hh1]; exact Z0
  show OwnG p e below s _ _ _ (T1.setTop (mkF m 419 _ [(.int 1)]))
  refine own_by (fun _ K => XS.ifNo X1.here hx rfl (hb hby at_419) rfl ((if0 _ _).trans (feq (by decide)).1) K) ?_
  show OwnG p e below s _ _ _ (T1.setTop (mkF m 422 _ []))
  refine own_by (fun _ K => XS.aload X1.here hx rfl (hb hby at_422) rfl rfl K) ?_
  show OwnG p e below s _ _ _ (T1.setTop (mkF m 424 _ [(.ref pa)]))
  refine own_by (fun _ K => XS.aload X1.here hx rfl (hb hby at_424) rfl rfl K) ?_
  show OwnG p e below s _ _ _ (T1.setTop (mkF m 426 _ [(.ref dd), (.ref pa)]))
  refine own_by (fun _ K => XS.aload X1.here hx rfl (hb hby at_426) rfl rfl K) ?_
  show OwnG p e below s _ _ _ (T1.setTop (mkF m 428 _ [(.ref cc), (.ref dd), (.ref pa)]))
  refine own_by (fun _ K => XS.iloadN X1.here hx rfl (hb hby at_428) rfl K) ?_
  show OwnG p e below s _ _ _ (T1.setTop (mkF m 429 _ [(.int 0), (.ref cc), (.ref dd), (.ref pa)]))
  refine own_by (fun _ K => XS.iconst X1.here hx rfl (hb hby at_429) K) ?_
  show OwnG p e below s _ _ _ (T1.setTop (mkF m 430 _ [(.int 1), (.int 0), (.ref cc), (.ref dd), (.ref pa)]))
  obtain ⟨_, _, ⟨T6, L6, k6, n6⟩, -, X6, ⟨Lc6, hQ6, l6, y6, z6⟩, st6⟩ := Jvm.LawKit.callS X1 hx (y := (⟨"com/example/etsinta/etsinta/search/BestRankPinLaw", "ordered", "([I[I[DII)Z"⟩ : MethodName)) hown (mvT hZ (own_w hw 39 rfl)) (mvT hZ (own_w hw 40 rfl)) (mvT hZ (own_w hw 34 rfl)) (mvT hZ (own_w hw 41 rfl)) (by decide) (backOf (W := 0) (rm7z l Z a0 hw [] pa dd cc (0 : Int32) (1 : Int32) T1.heap n0 sz1 (by decide)) hZ (own_w hw 41 rfl) (own_w hw 34 rfl) (by decide) (by decide)) (g := (mkF m 430 #[.val (.int cnt), .val (.int sb), .val (.int pb), .val (.int 0), .val (.ref ss), .val (.ref pa), .val (.ref dd), .val (.ref cc), .val (.ref ob), .val (.int 1), .val (.int mk)] [(.int 1), (.int 0), (.ref cc), (.ref dd), (.ref pa)])) rfl (by rw [hml]; rfl) (argsL := [(.ref pa), (.ref dd), (.ref cc), (.int 0), (.int 1)]) (rest := []) (lenOf pd_13 rfl) rfl (by show 2 * 0 + _ ≤ _; exact Nat.le_of_eq rfl) (hb hby at_430) (fun _ _ => ⟨rfl, (rfl : T1.heap = T1.heap), (by decide : 0 + 1 + 1 + 1 + 1 + 1 + 2 + 0 ≤ _), (by decide : 0 + 4 + 4 + 4 + 4 + 5 + 32 + 0 ≤ _)⟩)
  dsimp only [Pt.U, Pt.locs, Pt.cells, Pt.slots] at X6 l6 y6 z6 st6 hQ6
  subst l6 y6 z6
  refine own_by (fun _ K => st6 _ K) ?_
  obtain ⟨rfl, N6q, hh6⟩ := hQ6
  have N6 := Fr.app N1 N6q
  have f7 := f2
  rw [← hh6] at f7
  have f8 := f3
  rw [← hh6] at f8
  have f9 := f4
  rw [← hh6] at f9
  have f10 := f5
  rw [← hh6] at f10
  have sz6 : n0 ≤ T6.heap.size := by rw [hh6]; exact sz1
  show OwnG p e below s _ _ _ (T6.setTop (mkF m 433 _ [(.int 1)]))
  refine own_by (fun _ K => XS.ifNo X6.here hx rfl (hb hby at_433) rfl ((if0 _ _).trans (feq (by decide)).1) K) ?_
  show OwnG p e below s _ _ _ (T6.setTop (mkF m 436 _ []))
  refine own_by (fun _ K => XS.aload X6.here hx rfl (hb hby at_436) rfl rfl K) ?_
  show OwnG p e below s _ _ _ (T6.setTop (mkF m 438 _ [(.ref pa)]))
  refine own_by (fun _ K => XS.aload X6.here hx rfl (hb hby at_438) rfl rfl K) ?_
  show OwnG p e below s _ _ _ (T6.setTop (mkF m 440 _ [(.ref dd), (.ref pa)]))
  refine own_by (fun _ K => XS.aload X6.here hx rfl (hb hby at_440) rfl rfl K) ?_
  show OwnG p e below s _ _ _ (T6.setTop (mkF m 442 _ [(.ref cc), (.ref dd), (.ref pa)]))
  refine own_by (fun _ K => XS.iloadN X6.here hx rfl (hb hby at_442) rfl K) ?_
  show OwnG p e below s _ _ _ (T6.setTop (mkF m 443 _ [(.int 0), (.ref cc), (.ref dd), (.ref pa)]))
  refine own_by (fun _ K => XS.iconst X6.here hx rfl (hb hby at_443) K) ?_
  show OwnG p e below s _ _ _ (T6.setTop (mkF m 444 _ [(.int 2), (.int 0), (.ref cc), (.ref dd), (.ref pa)]))
  obtain ⟨_, _, ⟨T11, L11, k11, n11⟩, -, X11, ⟨Lc11, hQ11, l11, y11, z11⟩, st11⟩ := Jvm.LawKit.callS X6 hx (y := (⟨"com/example/etsinta/etsinta/search/BestRankPinLaw", "ordered", "([I[I[DII)Z"⟩ : MethodName)) hown (mvT hZ (own_w hw 39 rfl)) (mvT hZ (own_w hw 40 rfl)) (mvT hZ (own_w hw 34 rfl)) (mvT hZ (own_w hw 41 rfl)) (by decide) (backOf (W := 0) (rm7z l Z a0 hw [] pa dd cc (0 : Int32) (2 : Int32) T6.heap n0 sz6 (by decide)) hZ (own_w hw 41 rfl) (own_w hw 34 rfl) (by decide) (by decide)) (g := (mkF m 444 #[.val (.int cnt), .val (.int sb), .val (.int pb), .val (.int 0), .val (.ref ss), .val (.ref pa), .val (.ref dd), .val (.ref cc), .val (.ref ob), .val (.int 1), .val (.int mk)] [(.int 2), (.int 0), (.ref cc), (.ref dd), (.ref pa)])) rfl (by rw [hml]; rfl) (argsL := [(.ref pa), (.ref dd), (.ref cc), (.int 0), (.int 2)]) (rest := []) (lenOf pd_13 rfl) rfl (by show 2 * 0 + _ ≤ _; exact Nat.le_of_eq rfl) (hb hby at_444) (fun _ _ => ⟨rfl, (rfl : T6.heap = T6.heap), (by decide : 0 + 1 + 1 + 1 + 1 + 1 + 2 + 0 ≤ _), (by decide : 0 + 4 + 4 + 4 + 4 + 5 + 32 + 0 ≤ _)⟩)
  dsimp only [Pt.U, Pt.locs, Pt.cells, Pt.slots] at X11 l11 y11 z11 st11 hQ11
  subst l11 y11 z11
  refine own_by (fun _ K => st11 _ K) ?_
  obtain ⟨rfl, N11q, hh11⟩ := hQ11
  have N11 := Fr.app N6 N11q
  have f12 := f7
  rw [← hh11] at f12
  have f13 := f8
  rw [← hh11] at f13
  have f14 := f9
  rw [← hh11] at f14
  have f15 := f10
  rw [← hh11] at f15
  have sz11 : n0 ≤ T11.heap.size := by rw [hh11]; exact sz6
  show OwnG p e below s _ _ _ (T11.setTop (mkF m 447 _ [(.int 1)]))
  refine own_by (fun _ K => XS.ifNo X11.here hx rfl (hb hby at_447) rfl ((if0 _ _).trans (feq (by decide)).1) K) ?_
  show OwnG p e below s _ _ _ (T11.setTop (mkF m 450 _ []))
  refine own_by (fun _ K => XS.iconst X11.here hx rfl (hb hby at_450) K) ?_
  show OwnG p e below s _ _ _ (T11.setTop (mkF m 451 _ [(.int 1)]))
  refine own_by (fun _ K => XS.goto X11.here hx rfl (pc0 := 451) (pc' := 455) rfl (hb hby at_451) (by decide) (by decide) K) ?_
  show OwnG p e below s _ _ _ (T11.setTop (mkF m 455 _ [(.int 1)]))
  exact own_outN X11 hx hret (by simp) hlk (hb hby at_455) rfl (⟨rfl, N11⟩) (by decide) (by decide)
set_option maxRecDepth 65536 in
set_option maxHeartbeats 40000000 in
theorem own_e0 {p : Program} {l : Launch} {e : Env} {s : State} {m : MethodId} {args : Array Value} {below : List Frame} {meth : Method} {c : Code} {T0 : State} {locs : List Loc} {Z : State} {a0 : Array Value} {h0 : Heap} {n0 : Nat} (cnt sb pb mk : Int32) (sv pl : Int32 → Int32) (ob pa ss dd cc : Addr) (fp fss fdd fcc : Nat → Value) (X0 : Stand p l e room_1 s m args below meth c T0 locs (0 + 1 + 1 + 1 + 1 + 1 + 2) (0 + 4 + 4 + 4 + 4 + 5 + 32)) (hx : p.tables.exec = Jvm.exec) (hby : c.code = code) (hml : c.maxLocals = 11) (hret : meth.sig.returnType = some .boolean) (hlk : meth.locks = false) (hown : s.vm.findClass "com/example/etsinta/etsinta/search/BestRankPinLaw" = some m.cls) (hnm : meth.name = "law") (hZ : Z.Warmed39 s.vm) (hw : ∀ d ∈ tables_1, d.before a0 Z = true) (e0 : T0.heap = h0) (N0 : Fr n0 locs) (Z0 : n0 ≤ h0.size) (Ap : OwnA Z h0 pa .int 4 fp) (As : OwnA Z h0 ss .double 4 fss) (Ad : OwnA Z h0 dd .int 4 fdd) (Ac : OwnA Z h0 cc .double 4 fcc) (hP : own_P pl fp) (hss : ∀ d, own_ok d → fss d.toNatClampNeg = .double (FP.i2d (sv d))) :
    OwnG p e below s (fun v h L => v = some (.int 1) ∧ Fr n0 L) room_1.cells room_1.slots (T0.setTop (mkF m 293 #[.val (.int cnt), .val (.int sb), .val (.int pb), .val (.int 0), .val (.ref ss), .val (.ref pa), .val (.ref dd), .val (.ref cc), .val (.ref ob), .unset, .unset] [])) := by
  show OwnG p e below s _ _ _ (T0.setTop (mkF m 293 #[.val (.int cnt), .val (.int sb), .val (.int pb), .val (.int 0), .val (.ref ss), .val (.ref pa), .val (.ref dd), .val (.ref cc), .val (.ref ob), .unset, .unset] []))
  refine own_by (fun _ K => XS.aload X0.here hx rfl (hb hby at_293) rfl rfl K) ?_
  show OwnG p e below s _ _ _ (T0.setTop (mkF m 295 _ [(.ref dd)]))
  refine own_by (fun _ K => XS.aload X0.here hx rfl (hb hby at_295) rfl rfl K) ?_
  show OwnG p e below s _ _ _ (T0.setTop (mkF m 297 _ [(.ref cc), (.ref dd)]))
  refine own_by (fun _ K => XS.aload X0.here hx rfl (hb hby at_297) rfl rfl K) ?_
  show OwnG p e below s _ _ _ (T0.setTop (mkF m 299 _ [(.ref ss), (.ref cc), (.ref dd)]))
  refine own_by (fun _ K => XS.iloadN X0.here hx rfl (hb hby at_299) rfl K) ?_
  show OwnG p e below s _ _ _ (T0.setTop (mkF m 300 _ [(.int 0), (.ref ss), (.ref cc), (.ref dd)]))
  refine own_by (fun _ K => XS.iconst X0.here hx rfl (hb hby at_300) K) ?_
  show OwnG p e below s _ _ _ (T0.setTop (mkF m 301 _ [(.int 0), (.int 0), (.ref ss), (.ref cc), (.ref dd)]))
  obtain ⟨_, _, ⟨T1, L1, k1, n1⟩, -, X1, ⟨Lc1, hQ1, l1, y1, z1⟩, st1⟩ := Jvm.LawKit.callS X0 hx (y := (⟨"com/example/etsinta/etsinta/search/BestRankPinLaw", "entryOk", "([I[D[DII)Z"⟩ : MethodName)) hown (mvT hZ (own_w hw 32 rfl)) (mvT hZ (own_w hw 33 rfl)) (mvT hZ (own_w hw 34 rfl)) (mvT hZ (own_w hw 35 rfl)) (by decide) (backOf (W := 0) (rm5z l Z a0 hw [] dd cc ss (0 : Int32) (0 : Int32) h0 n0 Z0 (by decide)) hZ (own_w hw 35 rfl) (own_w hw 34 rfl) (by decide) (by decide)) (g := (mkF m 301 #[.val (.int cnt), .val (.int sb), .val (.int pb), .val (.int 0), .val (.ref ss), .val (.ref pa), .val (.ref dd), .val (.ref cc), .val (.ref ob), .unset, .unset] [(.int 0), (.int 0), (.ref ss), (.ref cc), (.ref dd)])) rfl (by rw [hml]; rfl) (argsL := [(.ref dd), (.ref cc), (.ref ss), (.int 0), (.int 0)]) (rest := []) (lenOf pd_11 rfl) rfl (by show 2 * 0 + _ ≤ _; exact Nat.le_of_eq rfl) (hb hby at_301) (fun _ _ => ⟨rfl, e0, (by decide : 0 + 1 + 1 + 1 + 1 + 1 + 2 + 0 ≤ _), (by decide : 0 + 4 + 4 + 4 + 4 + 5 + 32 + 0 ≤ _)⟩)
  dsimp only [Pt.U, Pt.locs, Pt.cells, Pt.slots] at X1 l1 y1 z1 st1 hQ1
  subst l1 y1 z1
  refine own_by (fun _ K => st1 _ K) ?_
  obtain ⟨rfl, N1q, hh1⟩ := hQ1
  have N1 := Fr.app N0 N1q
  have f2 := Ap
  rw [← hh1] at f2
  have f3 := As
  rw [← hh1] at f3
  have f4 := Ad
  rw [← hh1] at f4
  have f5 := Ac
  rw [← hh1] at f5
  have sz1 : n0 ≤ T1.heap.size := by rw [hh1]; exact Z0
  show OwnG p e below s _ _ _ (T1.setTop (mkF m 304 _ [(.int 1)]))
  refine own_by (fun _ K => XS.ifNo X1.here hx rfl (hb hby at_304) rfl ((if0 _ _).trans (feq (by decide)).1) K) ?_
  show OwnG p e below s _ _ _ (T1.setTop (mkF m 307 _ []))
  refine own_by (fun _ K => XS.aload X1.here hx rfl (hb hby at_307) rfl rfl K) ?_
  show OwnG p e below s _ _ _ (T1.setTop (mkF m 309 _ [(.ref dd)]))
  refine own_by (fun _ K => XS.aload X1.here hx rfl (hb hby at_309) rfl rfl K) ?_
  show OwnG p e below s _ _ _ (T1.setTop (mkF m 311 _ [(.ref cc), (.ref dd)]))
  refine own_by (fun _ K => XS.aload X1.here hx rfl (hb hby at_311) rfl rfl K) ?_
  show OwnG p e below s _ _ _ (T1.setTop (mkF m 313 _ [(.ref ss), (.ref cc), (.ref dd)]))
  refine own_by (fun _ K => XS.iloadN X1.here hx rfl (hb hby at_313) rfl K) ?_
  show OwnG p e below s _ _ _ (T1.setTop (mkF m 314 _ [(.int 0), (.ref ss), (.ref cc), (.ref dd)]))
  refine own_by (fun _ K => XS.iconst X1.here hx rfl (hb hby at_314) K) ?_
  show OwnG p e below s _ _ _ (T1.setTop (mkF m 315 _ [(.int 1), (.int 0), (.ref ss), (.ref cc), (.ref dd)]))
  obtain ⟨_, _, ⟨T6, L6, k6, n6⟩, -, X6, ⟨Lc6, hQ6, l6, y6, z6⟩, st6⟩ := Jvm.LawKit.callS X1 hx (y := (⟨"com/example/etsinta/etsinta/search/BestRankPinLaw", "entryOk", "([I[D[DII)Z"⟩ : MethodName)) hown (mvT hZ (own_w hw 32 rfl)) (mvT hZ (own_w hw 33 rfl)) (mvT hZ (own_w hw 34 rfl)) (mvT hZ (own_w hw 35 rfl)) (by decide) (backOf (W := 0) (rm5z l Z a0 hw [] dd cc ss (0 : Int32) (1 : Int32) T1.heap n0 sz1 (by decide)) hZ (own_w hw 35 rfl) (own_w hw 34 rfl) (by decide) (by decide)) (g := (mkF m 315 #[.val (.int cnt), .val (.int sb), .val (.int pb), .val (.int 0), .val (.ref ss), .val (.ref pa), .val (.ref dd), .val (.ref cc), .val (.ref ob), .unset, .unset] [(.int 1), (.int 0), (.ref ss), (.ref cc), (.ref dd)])) rfl (by rw [hml]; rfl) (argsL := [(.ref dd), (.ref cc), (.ref ss), (.int 0), (.int 1)]) (rest := []) (lenOf pd_11 rfl) rfl (by show 2 * 0 + _ ≤ _; exact Nat.le_of_eq rfl) (hb hby at_315) (fun _ _ => ⟨rfl, (rfl : T1.heap = T1.heap), (by decide : 0 + 1 + 1 + 1 + 1 + 1 + 2 + 0 ≤ _), (by decide : 0 + 4 + 4 + 4 + 4 + 5 + 32 + 0 ≤ _)⟩)
  dsimp only [Pt.U, Pt.locs, Pt.cells, Pt.slots] at X6 l6 y6 z6 st6 hQ6
  subst l6 y6 z6
  refine own_by (fun _ K => st6 _ K) ?_
  obtain ⟨rfl, N6q, hh6⟩ := hQ6
  have N6 := Fr.app N1 N6q
  have f7 := f2
  rw [← hh6] at f7
  have f8 := f3
  rw [← hh6] at f8
  have f9 := f4
  rw [← hh6] at f9
  have f10 := f5
  rw [← hh6] at f10
  have sz6 : n0 ≤ T6.heap.size := by rw [hh6]; exact sz1
  show OwnG p e below s _ _ _ (T6.setTop (mkF m 318 _ [(.int 1)]))
  refine own_by (fun _ K => XS.ifNo X6.here hx rfl (hb hby at_318) rfl ((if0 _ _).trans (feq (by decide)).1) K) ?_
  show OwnG p e below s _ _ _ (T6.setTop (mkF m 321 _ []))
  refine own_by (fun _ K => XS.aload X6.here hx rfl (hb hby at_321) rfl rfl K) ?_
  show OwnG p e below s _ _ _ (T6.setTop (mkF m 323 _ [(.ref dd)]))
  refine own_by (fun _ K => XS.aload X6.here hx rfl (hb hby at_323) rfl rfl K) ?_
  show OwnG p e below s _ _ _ (T6.setTop (mkF m 325 _ [(.ref cc), (.ref dd)]))
  refine own_by (fun _ K => XS.aload X6.here hx rfl (hb hby at_325) rfl rfl K) ?_
  show OwnG p e below s _ _ _ (T6.setTop (mkF m 327 _ [(.ref ss), (.ref cc), (.ref dd)]))
  refine own_by (fun _ K => XS.iloadN X6.here hx rfl (hb hby at_327) rfl K) ?_
  show OwnG p e below s _ _ _ (T6.setTop (mkF m 328 _ [(.int 0), (.ref ss), (.ref cc), (.ref dd)]))
  refine own_by (fun _ K => XS.iconst X6.here hx rfl (hb hby at_328) K) ?_
  show OwnG p e below s _ _ _ (T6.setTop (mkF m 329 _ [(.int 2), (.int 0), (.ref ss), (.ref cc), (.ref dd)]))
  obtain ⟨_, _, ⟨T11, L11, k11, n11⟩, -, X11, ⟨Lc11, hQ11, l11, y11, z11⟩, st11⟩ := Jvm.LawKit.callS X6 hx (y := (⟨"com/example/etsinta/etsinta/search/BestRankPinLaw", "entryOk", "([I[D[DII)Z"⟩ : MethodName)) hown (mvT hZ (own_w hw 32 rfl)) (mvT hZ (own_w hw 33 rfl)) (mvT hZ (own_w hw 34 rfl)) (mvT hZ (own_w hw 35 rfl)) (by decide) (backOf (W := 0) (rm5z l Z a0 hw [] dd cc ss (0 : Int32) (2 : Int32) T6.heap n0 sz6 (by decide)) hZ (own_w hw 35 rfl) (own_w hw 34 rfl) (by decide) (by decide)) (g := (mkF m 329 #[.val (.int cnt), .val (.int sb), .val (.int pb), .val (.int 0), .val (.ref ss), .val (.ref pa), .val (.ref dd), .val (.ref cc), .val (.ref ob), .unset, .unset] [(.int 2), (.int 0), (.ref ss), (.ref cc), (.ref dd)])) rfl (by rw [hml]; rfl) (argsL := [(.ref dd), (.ref cc), (.ref ss), (.int 0), (.int 2)]) (rest := []) (lenOf pd_11 rfl) rfl (by show 2 * 0 + _ ≤ _; exact Nat.le_of_eq rfl) (hb hby at_329) (fun _ _ => ⟨rfl, (rfl : T6.heap = T6.heap), (by decide : 0 + 1 + 1 + 1 + 1 + 1 + 2 + 0 ≤ _), (by decide : 0 + 4 + 4 + 4 + 4 + 5 + 32 + 0 ≤ _)⟩)
  dsimp only [Pt.U, Pt.locs, Pt.cells, Pt.slots] at X11 l11 y11 z11 st11 hQ11
  subst l11 y11 z11
  refine own_by (fun _ K => st11 _ K) ?_
  obtain ⟨rfl, N11q, hh11⟩ := hQ11
  have N11 := Fr.app N6 N11q
  have f12 := f7
  rw [← hh11] at f12
  have f13 := f8
  rw [← hh11] at f13
  have f14 := f9
  rw [← hh11] at f14
  have f15 := f10
  rw [← hh11] at f15
  have sz11 : n0 ≤ T11.heap.size := by rw [hh11]; exact sz6
  show OwnG p e below s _ _ _ (T11.setTop (mkF m 332 _ [(.int 1)]))
  refine own_by (fun _ K => XS.ifNo X11.here hx rfl (hb hby at_332) rfl ((if0 _ _).trans (feq (by decide)).1) K) ?_
  show OwnG p e below s _ _ _ (T11.setTop (mkF m 335 _ []))
  refine own_by (fun _ K => XS.aload X11.here hx rfl (hb hby at_335) rfl rfl K) ?_
  show OwnG p e below s _ _ _ (T11.setTop (mkF m 337 _ [(.ref dd)]))
  refine own_by (fun _ K => XS.aload X11.here hx rfl (hb hby at_337) rfl rfl K) ?_
  show OwnG p e below s _ _ _ (T11.setTop (mkF m 339 _ [(.ref cc), (.ref dd)]))
  refine own_by (fun _ K => XS.aload X11.here hx rfl (hb hby at_339) rfl rfl K) ?_
  show OwnG p e below s _ _ _ (T11.setTop (mkF m 341 _ [(.ref ss), (.ref cc), (.ref dd)]))
  refine own_by (fun _ K => XS.iloadN X11.here hx rfl (hb hby at_341) rfl K) ?_
  show OwnG p e below s _ _ _ (T11.setTop (mkF m 342 _ [(.int 0), (.ref ss), (.ref cc), (.ref dd)]))
  refine own_by (fun _ K => XS.iconst X11.here hx rfl (hb hby at_342) K) ?_
  show OwnG p e below s _ _ _ (T11.setTop (mkF m 343 _ [(.int 3), (.int 0), (.ref ss), (.ref cc), (.ref dd)]))
  obtain ⟨_, _, ⟨T16, L16, k16, n16⟩, -, X16, ⟨Lc16, hQ16, l16, y16, z16⟩, st16⟩ := Jvm.LawKit.callS X11 hx (y := (⟨"com/example/etsinta/etsinta/search/BestRankPinLaw", "entryOk", "([I[D[DII)Z"⟩ : MethodName)) hown (mvT hZ (own_w hw 32 rfl)) (mvT hZ (own_w hw 33 rfl)) (mvT hZ (own_w hw 34 rfl)) (mvT hZ (own_w hw 35 rfl)) (by decide) (backOf (W := 0) (rm5z l Z a0 hw [] dd cc ss (0 : Int32) (3 : Int32) T11.heap n0 sz11 (by decide)) hZ (own_w hw 35 rfl) (own_w hw 34 rfl) (by decide) (by decide)) (g := (mkF m 343 #[.val (.int cnt), .val (.int sb), .val (.int pb), .val (.int 0), .val (.ref ss), .val (.ref pa), .val (.ref dd), .val (.ref cc), .val (.ref ob), .unset, .unset] [(.int 3), (.int 0), (.ref ss), (.ref cc), (.ref dd)])) rfl (by rw [hml]; rfl) (argsL := [(.ref dd), (.ref cc), (.ref ss), (.int 0), (.int 3)]) (rest := []) (lenOf pd_11 rfl) rfl (by show 2 * 0 + _ ≤ _; exact Nat.le_of_eq rfl) (hb hby at_343) (fun _ _ => ⟨rfl, (rfl : T11.heap = T11.heap), (by decide : 0 + 1 + 1 + 1 + 1 + 1 + 2 + 0 ≤ _), (by decide : 0 + 4 + 4 + 4 + 4 + 5 + 32 + 0 ≤ _)⟩)
  dsimp only [Pt.U, Pt.locs, Pt.cells, Pt.slots] at X16 l16 y16 z16 st16 hQ16
  subst l16 y16 z16
  refine own_by (fun _ K => st16 _ K) ?_
  obtain ⟨rfl, N16q, hh16⟩ := hQ16
  have N16 := Fr.app N11 N16q
  have f17 := f12
  rw [← hh16] at f17
  have f18 := f13
  rw [← hh16] at f18
  have f19 := f14
  rw [← hh16] at f19
  have f20 := f15
  rw [← hh16] at f20
  have sz16 : n0 ≤ T16.heap.size := by rw [hh16]; exact sz11
  show OwnG p e below s _ _ _ (T16.setTop (mkF m 346 _ [(.int 1)]))
  refine own_by (fun _ K => XS.ifNo X16.here hx rfl (hb hby at_346) rfl ((if0 _ _).trans (feq (by decide)).1) K) ?_
  show OwnG p e below s _ _ _ (T16.setTop (mkF m 349 _ []))
  refine own_by (fun _ K => XS.iconst X16.here hx rfl (hb hby at_349) K) ?_
  show OwnG p e below s _ _ _ (T16.setTop (mkF m 350 _ [(.int 1)]))
  refine own_by (fun _ K => XS.goto X16.here hx rfl (pc0 := 350) (pc' := 354) rfl (hb hby at_350) (by decide) (by decide) K) ?_
  show OwnG p e below s _ _ _ (T16.setTop (mkF m 354 _ [(.int 1)]))
  refine own_by (fun _ K => XS.istore X16.here hx rfl (hb hby at_354) rfl (l' := #[.val (.int cnt), .val (.int sb), .val (.int pb), .val (.int 0), .val (.ref ss), .val (.ref pa), .val (.ref dd), .val (.ref cc), .val (.ref ob), .val (.int 1), .unset]) rfl K) ?_
  show OwnG p e below s _ _ _ (T16.setTop (mkF m 356 _ []))
  refine own_by (fun _ K => XS.iload X16.here hx rfl (hb hby at_356) rfl K) ?_
  show OwnG p e below s _ _ _ (T16.setTop (mkF m 358 _ [(.int 1)]))
  refine own_by (fun _ K => XS.ifYes X16.here hx rfl (pc0 := 358) (pc' := 363) rfl (hb hby at_358) rfl ((if0 _ _).trans (feq (by decide)).2) (by decide) (by decide) K) ?_
  show OwnG p e below s _ _ _ (T16.setTop (mkF m 363 _ []))
  refine own_by (fun _ K => XS.aload X16.here hx rfl (hb hby at_363) rfl rfl K) ?_
  show OwnG p e below s _ _ _ (T16.setTop (mkF m 365 _ [(.ref dd)]))
  refine own_by (fun _ K => XS.iloadN X16.here hx rfl (hb hby at_365) rfl K) ?_
  show OwnG p e below s _ _ _ (T16.setTop (mkF m 366 _ [(.int 0), (.ref dd)]))
  refine own_by (fun _ K => XS.iconst X16.here hx rfl (hb hby at_366) K) ?_
  show OwnG p e below s _ _ _ (T16.setTop (mkF m 367 _ [(.int 0), (.int 0), (.ref dd)]))
  obtain ⟨_, _, ⟨T21, L21, k21, n21⟩, -, X21, ⟨Lc21, hQ21, l21, y21, z21⟩, st21⟩ := Jvm.LawKit.callS X16 hx (y := (⟨"com/example/etsinta/etsinta/search/BestRankPinLaw", "bit", "([III)I"⟩ : MethodName)) hown (mvT hZ (own_w hw 36 rfl)) (mvT hZ (own_w hw 37 rfl)) (mvT hZ (own_w hw 34 rfl)) (mvT hZ (own_w hw 38 rfl)) (by decide) (backOf (W := 0) (rm6z l Z a0 hw [] dd (0 : Int32) (0 : Int32) T16.heap n0 sz16 (by decide)) hZ (own_w hw 38 rfl) (own_w hw 34 rfl) (by decide) (by decide)) (g := (mkF m 367 #[.val (.int cnt), .val (.int sb), .val (.int pb), .val (.int 0), .val (.ref ss), .val (.ref pa), .val (.ref dd), .val (.ref cc), .val (.ref ob), .val (.int 1), .unset] [(.int 0), (.int 0), (.ref dd)])) rfl (by rw [hml]; rfl) (argsL := [(.ref dd), (.int 0), (.int 0)]) (rest := []) (lenOf pd_12 rfl) rfl (by show 2 * 0 + _ ≤ _; exact Nat.le_of_eq rfl) (hb hby at_367) (fun _ _ => ⟨rfl, (rfl : T16.heap = T16.heap), (by decide : 0 + 1 + 1 + 1 + 1 + 1 + 2 + 0 ≤ _), (by decide : 0 + 4 + 4 + 4 + 4 + 5 + 32 + 0 ≤ _)⟩)
  dsimp only [Pt.U, Pt.locs, Pt.cells, Pt.slots] at X21 l21 y21 z21 st21 hQ21
  subst l21 y21 z21
  refine own_by (fun _ K => st21 _ K) ?_
  obtain ⟨rfl, N21q, hh21⟩ := hQ21
  have N21 := Fr.app N16 N21q
  have f22 := f17
  rw [← hh21] at f22
  have f23 := f18
  rw [← hh21] at f23
  have f24 := f19
  rw [← hh21] at f24
  have f25 := f20
  rw [← hh21] at f25
  have sz21 : n0 ≤ T21.heap.size := by rw [hh21]; exact sz16
  show OwnG p e below s _ _ _ (T21.setTop (mkF m 370 _ [(.int 0)]))
  refine own_by (fun _ K => XS.aload X21.here hx rfl (hb hby at_370) rfl rfl K) ?_
  show OwnG p e below s _ _ _ (T21.setTop (mkF m 372 _ [(.ref dd), (.int 0)]))
  refine own_by (fun _ K => XS.iloadN X21.here hx rfl (hb hby at_372) rfl K) ?_
  show OwnG p e below s _ _ _ (T21.setTop (mkF m 373 _ [(.int 0), (.ref dd), (.int 0)]))
  refine own_by (fun _ K => XS.iconst X21.here hx rfl (hb hby at_373) K) ?_
  show OwnG p e below s _ _ _ (T21.setTop (mkF m 374 _ [(.int 1), (.int 0), (.ref dd), (.int 0)]))
  obtain ⟨_, _, ⟨T26, L26, k26, n26⟩, -, X26, ⟨Lc26, hQ26, l26, y26, z26⟩, st26⟩ := Jvm.LawKit.callS X21 hx (y := (⟨"com/example/etsinta/etsinta/search/BestRankPinLaw", "bit", "([III)I"⟩ : MethodName)) hown (mvT hZ (own_w hw 36 rfl)) (mvT hZ (own_w hw 37 rfl)) (mvT hZ (own_w hw 34 rfl)) (mvT hZ (own_w hw 38 rfl)) (by decide) (backOf (W := 1) (rm6z l Z a0 hw [] dd (0 : Int32) (1 : Int32) T21.heap n0 sz21 (by decide)) hZ (own_w hw 38 rfl) (own_w hw 34 rfl) (by decide) (by decide)) (g := (mkF m 374 #[.val (.int cnt), .val (.int sb), .val (.int pb), .val (.int 0), .val (.ref ss), .val (.ref pa), .val (.ref dd), .val (.ref cc), .val (.ref ob), .val (.int 1), .unset] [(.int 1), (.int 0), (.ref dd), (.int 0)])) rfl (by rw [hml]; rfl) (argsL := [(.ref dd), (.int 0), (.int 1)]) (rest := [(.int 0)]) (lenOf pd_12 rfl) rfl (by show 2 * 0 + _ ≤ _; exact Nat.le_of_eq rfl) (hb hby at_374) (fun _ _ => ⟨rfl, (rfl : T21.heap = T21.heap), (by decide : 0 + 1 + 1 + 1 + 1 + 1 + 2 + 0 ≤ _), (by decide : 0 + 4 + 4 + 4 + 4 + 5 + 32 + 0 ≤ _)⟩)
  dsimp only [Pt.U, Pt.locs, Pt.cells, Pt.slots] at X26 l26 y26 z26 st26 hQ26
  subst l26 y26 z26
  refine own_by (fun _ K => st26 _ K) ?_
  obtain ⟨rfl, N26q, hh26⟩ := hQ26
  have N26 := Fr.app N21 N26q
  have f27 := f22
  rw [← hh26] at f27
  have f28 := f23
  rw [← hh26] at f28
  have f29 := f24
  rw [← hh26] at f29
  have f30 := f25
  rw [← hh26] at f30
  have sz26 : n0 ≤ T26.heap.size := by rw [hh26]; exact sz21
  show OwnG p e below s _ _ _ (T26.setTop (mkF m 377 _ [(.int 0), (.int 0)]))
  refine own_by (fun _ K => XS.ior X26.here hx rfl (hb hby at_377) rfl K) ?_
  show OwnG p e below s _ _ _ (T26.setTop (mkF m 378 _ [(.int ((0 : Int32) ||| (0 : Int32)))]))
  refine own_by (fun _ K => XS.aload X26.here hx rfl (hb hby at_378) rfl rfl K) ?_
  show OwnG p e below s _ _ _ (T26.setTop (mkF m 380 _ [(.ref dd), (.int ((0 : Int32) ||| (0 : Int32)))]))
  refine own_by (fun _ K => XS.iloadN X26.here hx rfl (hb hby at_380) rfl K) ?_
  show OwnG p e below s _ _ _ (T26.setTop (mkF m 381 _ [(.int 0), (.ref dd), (.int ((0 : Int32) ||| (0 : Int32)))]))
  refine own_by (fun _ K => XS.iconst X26.here hx rfl (hb hby at_381) K) ?_
  show OwnG p e below s _ _ _ (T26.setTop (mkF m 382 _ [(.int 2), (.int 0), (.ref dd), (.int ((0 : Int32) ||| (0 : Int32)))]))
  obtain ⟨_, _, ⟨T31, L31, k31, n31⟩, -, X31, ⟨Lc31, hQ31, l31, y31, z31⟩, st31⟩ := Jvm.LawKit.callS X26 hx (y := (⟨"com/example/etsinta/etsinta/search/BestRankPinLaw", "bit", "([III)I"⟩ : MethodName)) hown (mvT hZ (own_w hw 36 rfl)) (mvT hZ (own_w hw 37 rfl)) (mvT hZ (own_w hw 34 rfl)) (mvT hZ (own_w hw 38 rfl)) (by decide) (backOf (W := 1) (rm6z l Z a0 hw [] dd (0 : Int32) (2 : Int32) T26.heap n0 sz26 (by decide)) hZ (own_w hw 38 rfl) (own_w hw 34 rfl) (by decide) (by decide)) (g := (mkF m 382 #[.val (.int cnt), .val (.int sb), .val (.int pb), .val (.int 0), .val (.ref ss), .val (.ref pa), .val (.ref dd), .val (.ref cc), .val (.ref ob), .val (.int 1), .unset] [(.int 2), (.int 0), (.ref dd), (.int ((0 : Int32) ||| (0 : Int32)))])) rfl (by rw [hml]; rfl) (argsL := [(.ref dd), (.int 0), (.int 2)]) (rest := [(.int ((0 : Int32) ||| (0 : Int32)))]) (lenOf pd_12 rfl) rfl (by show 2 * 0 + _ ≤ _; exact Nat.le_of_eq rfl) (hb hby at_382) (fun _ _ => ⟨rfl, (rfl : T26.heap = T26.heap), (by decide : 0 + 1 + 1 + 1 + 1 + 1 + 2 + 0 ≤ _), (by decide : 0 + 4 + 4 + 4 + 4 + 5 + 32 + 0 ≤ _)⟩)
  dsimp only [Pt.U, Pt.locs, Pt.cells, Pt.slots] at X31 l31 y31 z31 st31 hQ31
  subst l31 y31 z31
  refine own_by (fun _ K => st31 _ K) ?_
  obtain ⟨rfl, N31q, hh31⟩ := hQ31
  have N31 := Fr.app N26 N31q
  have f32 := f27
  rw [← hh31] at f32
  have f33 := f28
  rw [← hh31] at f33
  have f34 := f29
  rw [← hh31] at f34
  have f35 := f30
  rw [← hh31] at f35
  have sz31 : n0 ≤ T31.heap.size := by rw [hh31]; exact sz26
  show OwnG p e below s _ _ _ (T31.setTop (mkF m 385 _ [(.int 0), (.int ((0 : Int32) ||| (0 : Int32)))]))
  refine own_by (fun _ K => XS.ior X31.here hx rfl (hb hby at_385) rfl K) ?_
  show OwnG p e below s _ _ _ (T31.setTop (mkF m 386 _ [(.int (((0 : Int32) ||| (0 : Int32)) ||| (0 : Int32)))]))
  refine own_by (fun _ K => XS.aload X31.here hx rfl (hb hby at_386) rfl rfl K) ?_
  show OwnG p e below s _ _ _ (T31.setTop (mkF m 388 _ [(.ref dd), (.int (((0 : Int32) ||| (0 : Int32)) ||| (0 : Int32)))]))
  refine own_by (fun _ K => XS.iloadN X31.here hx rfl (hb hby at_388) rfl K) ?_
  show OwnG p e below s _ _ _ (T31.setTop (mkF m 389 _ [(.int 0), (.ref dd), (.int (((0 : Int32) ||| (0 : Int32)) ||| (0 : Int32)))]))
  refine own_by (fun _ K => XS.iconst X31.here hx rfl (hb hby at_389) K) ?_
  show OwnG p e below s _ _ _ (T31.setTop (mkF m 390 _ [(.int 3), (.int 0), (.ref dd), (.int (((0 : Int32) ||| (0 : Int32)) ||| (0 : Int32)))]))
  obtain ⟨_, _, ⟨T36, L36, k36, n36⟩, -, X36, ⟨Lc36, hQ36, l36, y36, z36⟩, st36⟩ := Jvm.LawKit.callS X31 hx (y := (⟨"com/example/etsinta/etsinta/search/BestRankPinLaw", "bit", "([III)I"⟩ : MethodName)) hown (mvT hZ (own_w hw 36 rfl)) (mvT hZ (own_w hw 37 rfl)) (mvT hZ (own_w hw 34 rfl)) (mvT hZ (own_w hw 38 rfl)) (by decide) (backOf (W := 1) (rm6z l Z a0 hw [] dd (0 : Int32) (3 : Int32) T31.heap n0 sz31 (by decide)) hZ (own_w hw 38 rfl) (own_w hw 34 rfl) (by decide) (by decide)) (g := (mkF m 390 #[.val (.int cnt), .val (.int sb), .val (.int pb), .val (.int 0), .val (.ref ss), .val (.ref pa), .val (.ref dd), .val (.ref cc), .val (.ref ob), .val (.int 1), .unset] [(.int 3), (.int 0), (.ref dd), (.int (((0 : Int32) ||| (0 : Int32)) ||| (0 : Int32)))])) rfl (by rw [hml]; rfl) (argsL := [(.ref dd), (.int 0), (.int 3)]) (rest := [(.int (((0 : Int32) ||| (0 : Int32)) ||| (0 : Int32)))]) (lenOf pd_12 rfl) rfl (by show 2 * 0 + _ ≤ _; exact Nat.le_of_eq rfl) (hb hby at_390) (fun _ _ => ⟨rfl, (rfl : T31.heap = T31.heap), (by decide : 0 + 1 + 1 + 1 + 1 + 1 + 2 + 0 ≤ _), (by decide : 0 + 4 + 4 + 4 + 4 + 5 + 32 + 0 ≤ _)⟩)
  dsimp only [Pt.U, Pt.locs, Pt.cells, Pt.slots] at X36 l36 y36 z36 st36 hQ36
  subst l36 y36 z36
  refine own_by (fun _ K => st36 _ K) ?_
  obtain ⟨rfl, N36q, hh36⟩ := hQ36
  have N36 := Fr.app N31 N36q
  have f37 := f32
  rw [← hh36] at f37
  have f38 := f33
  rw [← hh36] at f38
  have f39 := f34
  rw [← hh36] at f39
  have f40 := f35
  rw [← hh36] at f40
  have sz36 : n0 ≤ T36.heap.size := by rw [hh36]; exact sz31
  show OwnG p e below s _ _ _ (T36.setTop (mkF m 393 _ [(.int 0), (.int (((0 : Int32) ||| (0 : Int32)) ||| (0 : Int32)))]))
  refine own_by (fun _ K => XS.ior X36.here hx rfl (hb hby at_393) rfl K) ?_
  show OwnG p e below s _ _ _ (T36.setTop (mkF m 394 _ [(.int ((((0 : Int32) ||| (0 : Int32)) ||| (0 : Int32)) ||| (0 : Int32)))]))
  refine own_by (fun _ K => XS.istore X36.here hx rfl (hb hby at_394) rfl (l' := #[.val (.int cnt), .val (.int sb), .val (.int pb), .val (.int 0), .val (.ref ss), .val (.ref pa), .val (.ref dd), .val (.ref cc), .val (.ref ob), .val (.int 1), .val (.int ((((0 : Int32) ||| (0 : Int32)) ||| (0 : Int32)) ||| (0 : Int32)))]) rfl K) ?_
  show OwnG p e below s _ _ _ (T36.setTop (mkF m 396 _ []))
  refine own_by (fun _ K => XS.iload X36.here hx rfl (hb hby at_396) rfl K) ?_
  show OwnG p e below s _ _ _ (T36.setTop (mkF m 398 _ [(.int ((((0 : Int32) ||| (0 : Int32)) ||| (0 : Int32)) ||| (0 : Int32)))]))
  refine own_by (fun _ K => XS.iconst X36.here hx rfl (hb hby at_398) K) ?_
  show OwnG p e below s _ _ _ (T36.setTop (mkF m 399 _ [(.int 1), (.int ((((0 : Int32) ||| (0 : Int32)) ||| (0 : Int32)) ||| (0 : Int32)))]))
  refine own_by (fun _ K => XS.iloadN X36.here hx rfl (hb hby at_399) rfl K) ?_
  show OwnG p e below s _ _ _ (T36.setTop (mkF m 400 _ [(.int 0), (.int 1), (.int ((((0 : Int32) ||| (0 : Int32)) ||| (0 : Int32)) ||| (0 : Int32)))]))
  refine own_by (fun _ K => XS.ishl X36.here hx rfl (hb hby at_400) rfl K) ?_
  show OwnG p e below s _ _ _ (T36.setTop (mkF m 401 _ [(.int ((1 : Int32) <<< ((0 : Int32) &&& 31))), (.int ((((0 : Int32) ||| (0 : Int32)) ||| (0 : Int32)) ||| (0 : Int32)))]))
  refine own_by (fun _ K => XS.iconst X36.here hx rfl (hb hby at_401) K) ?_
  show OwnG p e below s _ _ _ (T36.setTop (mkF m 402 _ [(.int 1), (.int ((1 : Int32) <<< ((0 : Int32) &&& 31))), (.int ((((0 : Int32) ||| (0 : Int32)) ||| (0 : Int32)) ||| (0 : Int32)))]))
  refine own_by (fun _ K => XS.isub X36.here hx rfl (hb hby at_402) rfl K) ?_
  show OwnG p e below s _ _ _ (T36.setTop (mkF m 403 _ [(.int (((1 : Int32) <<< ((0 : Int32) &&& 31)) - (1 : Int32))), (.int ((((0 : Int32) ||| (0 : Int32)) ||| (0 : Int32)) ||| (0 : Int32)))]))
  refine own_by (fun _ K => XS.icmpYes X36.here hx rfl (pc0 := 403) (pc' := 408) rfl (hb hby at_403) rfl (teq (by decide)).1 (by decide) (by decide) K) ?_
  show OwnG p e below s _ _ _ (T36.setTop (mkF m 408 _ []))
  exact own_o0 cnt sb pb _ sv pl ob pa ss dd cc fp fss fdd fcc  X36 hx hby hml hret hlk hown hnm hZ hw (rfl : T36.heap = T36.heap) N36 sz36 f37 f38 f39 f40 hP hss 
set_option maxRecDepth 65536 in
set_option maxHeartbeats 40000000 in
theorem own_r0 {p : Program} {l : Launch} {e : Env} {s : State} {m : MethodId} {args : Array Value} {below : List Frame} {meth : Method} {c : Code} {T0 : State} {locs : List Loc} {Z : State} {a0 : Array Value} {h0 : Heap} {n0 : Nat} (cnt sb pb : Int32) (sv pl : Int32 → Int32) (ob sa da pa ss dd cc : Addr) (fd fs fp fss : Nat → Value) (X0 : Stand p l e room_1 s m args below meth c T0 locs (0 + 1 + 1 + 1 + 1 + 1 + 2) (0 + 4 + 4 + 4 + 4 + 5 + 32)) (hx : p.tables.exec = Jvm.exec) (hby : c.code = code) (hml : c.maxLocals = 11) (hret : meth.sig.returnType = some .boolean) (hlk : meth.locks = false) (hown : s.vm.findClass "com/example/etsinta/etsinta/search/BestRankPinLaw" = some m.cls) (hnm : meth.name = "law") (hZ : Z.Warmed39 s.vm) (hw : ∀ d ∈ tables_1, d.before a0 Z = true) (e0 : T0.heap = h0) (N0 : Fr n0 locs) (Z0 : n0 ≤ h0.size) (Sb : own_S Z h0 ob sa da pa (0 : Int32) fd fs fp) (Nn : own_N n0 ob sa da pa) (Mm : own_M ob sa da pa ss dd cc) (hP : own_P pl fp) (hss : ∀ d, own_ok d → fss d.toNatClampNeg = .double (FP.i2d (sv d))) (As : OwnA Z h0 ss .double 4 fss) (Ad : OwnA Z h0 dd .int 4 (fun _ => (defaultValue .int))) (Ac : OwnA Z h0 cc .double 4 (fun _ => (defaultValue .double))) (gd : n0 ≤ dd) (gc : n0 ≤ cc) :
    OwnG p e below s (fun v h L => v = some (.int 1) ∧ Fr n0 L) room_1.cells room_1.slots (T0.setTop (mkF m 194 #[.val (.int cnt), .val (.int sb), .val (.int pb), .val (.int 0), .val (.ref ss), .val (.ref pa), .val (.ref dd), .val (.ref cc), .val (.ref ob), .unset, .unset] [])) := by
  show OwnG p e below s _ _ _ (T0.setTop (mkF m 194 #[.val (.int cnt), .val (.int sb), .val (.int pb), .val (.int 0), .val (.ref ss), .val (.ref pa), .val (.ref dd), .val (.ref cc), .val (.ref ob), .unset, .unset] []))
  refine own_by (fun _ K => XS.iloadN X0.here hx rfl (hb hby at_194) rfl K) ?_
  show OwnG p e below s _ _ _ (T0.setTop (mkF m 195 _ [(.int 0)]))
  refine own_by (fun _ K => XS.ifYes X0.here hx rfl (pc0 := 195) (pc' := 218) rfl (hb hby at_195) rfl ((if0 _ _).trans (flt (by decide)).2.2.2) (by decide) (by decide) K) ?_
  show OwnG p e below s _ _ _ (T0.setTop (mkF m 218 _ []))
  refine own_by (fun _ K => XS.iloadN X0.here hx rfl (hb hby at_218) rfl K) ?_
  show OwnG p e below s _ _ _ (T0.setTop (mkF m 219 _ [(.int 0)]))
  refine own_by (fun _ K => XS.iconst X0.here hx rfl (hb hby at_219) K) ?_
  show OwnG p e below s _ _ _ (T0.setTop (mkF m 220 _ [(.int 1), (.int 0)]))
  refine own_by (fun _ K => XS.icmpYes X0.here hx rfl (pc0 := 220) (pc' := 243) rfl (hb hby at_220) rfl (flt (by decide)).2.2.2 (by decide) (by decide) K) ?_
  show OwnG p e below s _ _ _ (T0.setTop (mkF m 243 _ []))
  refine own_by (fun _ K => XS.iloadN X0.here hx rfl (hb hby at_243) rfl K) ?_
  show OwnG p e below s _ _ _ (T0.setTop (mkF m 244 _ [(.int 0)]))
  refine own_by (fun _ K => XS.iconst X0.here hx rfl (hb hby at_244) K) ?_
  show OwnG p e below s _ _ _ (T0.setTop (mkF m 245 _ [(.int 2), (.int 0)]))
  refine own_by (fun _ K => XS.icmpYes X0.here hx rfl (pc0 := 245) (pc' := 268) rfl (hb hby at_245) rfl (flt (by decide)).2.2.2 (by decide) (by decide) K) ?_
  show OwnG p e below s _ _ _ (T0.setTop (mkF m 268 _ []))
  refine own_by (fun _ K => XS.iloadN X0.here hx rfl (hb hby at_268) rfl K) ?_
  show OwnG p e below s _ _ _ (T0.setTop (mkF m 269 _ [(.int 0)]))
  refine own_by (fun _ K => XS.iconst X0.here hx rfl (hb hby at_269) K) ?_
  show OwnG p e below s _ _ _ (T0.setTop (mkF m 270 _ [(.int 3), (.int 0)]))
  refine own_by (fun _ K => XS.icmpYes X0.here hx rfl (pc0 := 270) (pc' := 293) rfl (hb hby at_270) rfl (flt (by decide)).2.2.2 (by decide) (by decide) K) ?_
  show OwnG p e below s _ _ _ (T0.setTop (mkF m 293 _ []))
  exact own_e0 cnt sb pb 0 sv pl ob pa ss dd cc fp fss (fun _ => (defaultValue .int)) (fun _ => (defaultValue .double))  X0 hx hby hml hret hlk hown hnm hZ hw e0 N0 Z0 Sb.2.2.2.2.2.2.2.2 As Ad Ac hP hss 
set_option maxRecDepth 65536 in
set_option maxHeartbeats 40000000 in
theorem own_n0 {p : Program} {l : Launch} {e : Env} {s : State} {m : MethodId} {args : Array Value} {below : List Frame} {meth : Method} {c : Code} {T0 : State} {locs : List Loc} {Z : State} {a0 : Array Value} {h0 : Heap} {n0 : Nat} (cnt sb pb : Int32) (sv pl : Int32 → Int32) (ob sa da pa ss dd cc : Addr) (fd fs fp fss : Nat → Value) (X0 : Stand p l e room_1 s m args below meth c T0 locs (0 + 1 + 1 + 1 + 1 + 1 + 2) (0 + 4 + 4 + 4 + 4 + 5 + 32)) (hx : p.tables.exec = Jvm.exec) (hby : c.code = code) (hml : c.maxLocals = 11) (hret : meth.sig.returnType = some .boolean) (hlk : meth.locks = false) (hown : s.vm.findClass "com/example/etsinta/etsinta/search/BestRankPinLaw" = some m.cls) (hnm : meth.name = "law") (hZ : Z.Warmed39 s.vm) (hw : ∀ d ∈ tables_1, d.before a0 Z = true) (e0 : T0.heap = h0) (N0 : Fr n0 locs) (Z0 : n0 ≤ h0.size) (Sb : own_S Z h0 ob sa da pa (0 : Int32) fd fs fp) (Nn : own_N n0 ob sa da pa) (Mm : own_M ob sa da pa ss dd cc) (hP : own_P pl fp) (hss : ∀ d, own_ok d → fss d.toNatClampNeg = .double (FP.i2d (sv d))) (As : OwnA Z h0 ss .double 4 fss) (Ad : OwnA Z h0 dd .int 4 (fun _ => (defaultValue .int))) (Ac : OwnA Z h0 cc .double 4 (fun _ => (defaultValue .double))) (gd : n0 ≤ dd) (gc : n0 ≤ cc) :
    OwnG p e below s (fun v h L => v = some (.int 1) ∧ Fr n0 L) room_1.cells room_1.slots (T0.setTop (mkF m 119 #[.val (.int cnt), .val (.int sb), .val (.int pb), .val (.int 0), .val (.ref ss), .val (.ref pa), .val (.ref dd), .val (.ref cc), .val (.ref ob), .unset, .unset] [])) := by
  show OwnG p e below s _ _ _ (T0.setTop (mkF m 119 #[.val (.int cnt), .val (.int sb), .val (.int pb), .val (.int 0), .val (.ref ss), .val (.ref pa), .val (.ref dd), .val (.ref cc), .val (.ref ob), .unset, .unset] []))
  refine own_by (fun _ K => XS.iloadN X0.here hx rfl (hb hby at_119) rfl K) ?_
  show OwnG p e below s _ _ _ (T0.setTop (mkF m 120 _ [(.int 0)]))
  refine own_by (fun _ K => XS.ifYes X0.here hx rfl (pc0 := 120) (pc' := 133) rfl (hb hby at_120) rfl ((if0 _ _).trans (flt (by decide)).2.2.2) (by decide) (by decide) K) ?_
  show OwnG p e below s _ _ _ (T0.setTop (mkF m 133 _ []))
  refine own_by (fun _ K => XS.iloadN X0.here hx rfl (hb hby at_133) rfl K) ?_
  show OwnG p e below s _ _ _ (T0.setTop (mkF m 134 _ [(.int 0)]))
  refine own_by (fun _ K => XS.iconst X0.here hx rfl (hb hby at_134) K) ?_
  show OwnG p e below s _ _ _ (T0.setTop (mkF m 135 _ [(.int 1), (.int 0)]))
  refine own_by (fun _ K => XS.icmpYes X0.here hx rfl (pc0 := 135) (pc' := 148) rfl (hb hby at_135) rfl (flt (by decide)).2.2.2 (by decide) (by decide) K) ?_
  show OwnG p e below s _ _ _ (T0.setTop (mkF m 148 _ []))
  refine own_by (fun _ K => XS.iloadN X0.here hx rfl (hb hby at_148) rfl K) ?_
  show OwnG p e below s _ _ _ (T0.setTop (mkF m 149 _ [(.int 0)]))
  refine own_by (fun _ K => XS.iconst X0.here hx rfl (hb hby at_149) K) ?_
  show OwnG p e below s _ _ _ (T0.setTop (mkF m 150 _ [(.int 2), (.int 0)]))
  refine own_by (fun _ K => XS.icmpYes X0.here hx rfl (pc0 := 150) (pc' := 163) rfl (hb hby at_150) rfl (flt (by decide)).2.2.2 (by decide) (by decide) K) ?_
  show OwnG p e below s _ _ _ (T0.setTop (mkF m 163 _ []))
  refine own_by (fun _ K => XS.iloadN X0.here hx rfl (hb hby at_163) rfl K) ?_
  show OwnG p e below s _ _ _ (T0.setTop (mkF m 164 _ [(.int 0)]))
  refine own_by (fun _ K => XS.iconst X0.here hx rfl (hb hby at_164) K) ?_
  show OwnG p e below s _ _ _ (T0.setTop (mkF m 165 _ [(.int 3), (.int 0)]))
  refine own_by (fun _ K => XS.icmpYes X0.here hx rfl (pc0 := 165) (pc' := 178) rfl (hb hby at_165) rfl (flt (by decide)).2.2.2 (by decide) (by decide) K) ?_
  show OwnG p e below s _ _ _ (T0.setTop (mkF m 178 _ []))
  refine own_by (fun _ K => XS.aload X0.here hx rfl (hb hby at_178) rfl rfl K) ?_
  show OwnG p e below s _ _ _ (T0.setTop (mkF m 180 _ [(.ref ob)]))
  obtain ⟨cq1, kq1, q1a, q1b, q1c⟩ := isOf hZ e0 Sb.1
  obtain ⟨_, _, ⟨T1, L1, k1, n1⟩, -, X1, ⟨Lc1, hQ1, l1, y1, z1⟩, st1⟩ := X0.virtualBack hx (y := (⟨"com/example/etsinta/etsinta/search/Best", "rank", "()V"⟩ : MethodName)) (z := (⟨"com/example/etsinta/etsinta/search/Best", "rank", "()V"⟩ : MethodName)) hown (mvT hZ (own_w hw 20 rfl)) (mvT hZ (own_w hw 21 rfl)) (notFace_of_selects (args := #[]) (mvT hZ (own_w hw 23 rfl))) (mvT hZ (own_w hw 23 rfl)) (mvT hZ (own_w hw 22 rfl)) (by decide) (backOf (W := 0) (rm3k0 l Z a0 hw [] sv pl ob sa da pa fd fs fp  h0 n0 Z0 ⟨Sb.1, Sb.2.1, Sb.2.2.1, Sb.2.2.2.1, Sb.2.2.2.2.1, Sb.2.2.2.2.2.1, Sb.2.2.2.2.2.2.1, Sb.2.2.2.2.2.2.2.1, Sb.2.2.2.2.2.2.2.2⟩ Nn hP ) hZ (own_w hw 24 rfl) (own_w hw 5 rfl) (by decide) (by decide)) q1a q1c (g := (mkF m 180 #[.val (.int cnt), .val (.int sb), .val (.int pb), .val (.int 0), .val (.ref ss), .val (.ref pa), .val (.ref dd), .val (.ref cc), .val (.ref ob), .unset, .unset] [(.ref ob)])) rfl (by rw [hml]; rfl) (Steps.refl _) (argsL := []) (rest := []) (lenOf pd_6 rfl) rfl (by show 2 * 0 + _ ≤ _; exact Nat.le_of_eq rfl) (hb hby at_180) (fun _ _ => ⟨rfl, e0, (by decide : 0 + 1 + 1 + 1 + 1 + 1 + 2 + 0 ≤ _), (by decide : 0 + 4 + 4 + 4 + 4 + 5 + 32 + 0 ≤ _)⟩)
  dsimp only [Pt.U, Pt.locs, Pt.cells, Pt.slots] at X1 l1 y1 z1 st1 hQ1
  subst l1 y1 z1
  refine own_by (fun _ K => st1.trans K) ?_
  obtain ⟨rfl, N1q, K1, fd1, fs1, S1⟩ := hQ1
  have N1 := Fr.app N0 N1q
  have sz1 : n0 ≤ T1.heap.size := Nat.le_trans Z0 K1.1
  have f2 := Exa.keep Sb.1 K1
  have f3 := OwnA.keep As K1 (ninS Mm.1 (ninS Mm.2.1 (ninS Mm.2.2.1 nin0)))
  have f4 := OwnA.keep Ad K1 (ninS Mm.2.2.2.1 (ninS Mm.2.2.2.2.1 (ninS Mm.2.2.2.2.2.1 nin0)))
  have f5 := OwnA.keep Ac K1 (ninS Mm.2.2.2.2.2.2.1 (ninS Mm.2.2.2.2.2.2.2.1 (ninS Mm.2.2.2.2.2.2.2.2.1 nin0)))
  show OwnG p e below s _ _ _ (T1.setTop (mkF m 183 _ []))
  refine own_by (fun _ K => XS.aload X1.here hx rfl (hb hby at_183) rfl rfl K) ?_
  show OwnG p e below s _ _ _ (T1.setTop (mkF m 185 _ [(.ref ob)]))
  obtain ⟨cq6, kq6, q6a, q6b, q6c⟩ := isOf hZ (rfl : T1.heap = T1.heap) S1.1
  obtain ⟨_, _, ⟨T6, L6, k6, n6⟩, -, X6, ⟨Lc6, hQ6, l6, y6, z6⟩, st6⟩ := X1.virtualBack hx (y := (⟨"com/example/etsinta/etsinta/search/Best", "size", "()I"⟩ : MethodName)) (z := (⟨"com/example/etsinta/etsinta/search/Best", "size", "()I"⟩ : MethodName)) hown (mvT hZ (own_w hw 27 rfl)) (mvT hZ (own_w hw 28 rfl)) (notFace_of_selects (args := #[]) (mvT hZ (own_w hw 30 rfl))) (mvT hZ (own_w hw 30 rfl)) (mvT hZ (own_w hw 29 rfl)) (by decide) (backOf (W := 0) (rm4 l Z a0 hw [] ob sa da pa (0 : Int32) fd1 fs1 fp T1.heap n0 sz1 ⟨S1.1, S1.2.1, S1.2.2.1, S1.2.2.2.1, S1.2.2.2.2.1, S1.2.2.2.2.2.1, S1.2.2.2.2.2.2.1, S1.2.2.2.2.2.2.2.1, S1.2.2.2.2.2.2.2.2⟩) hZ (own_w hw 31 rfl) (own_w hw 5 rfl) (by decide) (by decide)) q6a q6c (g := (mkF m 185 #[.val (.int cnt), .val (.int sb), .val (.int pb), .val (.int 0), .val (.ref ss), .val (.ref pa), .val (.ref dd), .val (.ref cc), .val (.ref ob), .unset, .unset] [(.ref ob)])) rfl (by rw [hml]; rfl) (Steps.refl _) (argsL := []) (rest := []) (lenOf pd_8 rfl) rfl (by show 2 * 0 + _ ≤ _; exact Nat.le_of_eq rfl) (hb hby at_185) (fun _ _ => ⟨rfl, (rfl : T1.heap = T1.heap), (by decide : 0 + 1 + 1 + 1 + 1 + 1 + 2 + 0 ≤ _), (by decide : 0 + 4 + 4 + 4 + 4 + 5 + 32 + 0 ≤ _)⟩)
  dsimp only [Pt.U, Pt.locs, Pt.cells, Pt.slots] at X6 l6 y6 z6 st6 hQ6
  subst l6 y6 z6
  refine own_by (fun _ K => st6.trans K) ?_
  obtain ⟨rfl, N6q, hh6⟩ := hQ6
  have N6 := Fr.app N1 N6q
  have f7 := S1.1
  rw [← hh6] at f7
  have f8 := f3
  rw [← hh6] at f8
  have f9 := f4
  rw [← hh6] at f9
  have f10 := f5
  rw [← hh6] at f10
  have f11 := S1.2.1
  rw [← hh6] at f11
  have f12 := S1.2.2.1
  rw [← hh6] at f12
  have f13 := S1.2.2.2.1
  rw [← hh6] at f13
  have f14 := S1.2.2.2.2.1
  rw [← hh6] at f14
  have f15 := S1.2.2.2.2.2.1
  rw [← hh6] at f15
  have f16 := S1.2.2.2.2.2.2.1
  rw [← hh6] at f16
  have f17 := S1.2.2.2.2.2.2.2.1
  rw [← hh6] at f17
  have f18 := S1.2.2.2.2.2.2.2.2
  rw [← hh6] at f18
  have sz6 : n0 ≤ T6.heap.size := by rw [hh6]; exact sz1
  show OwnG p e below s _ _ _ (T6.setTop (mkF m 188 _ [(.int 0)]))
  refine own_by (fun _ K => XS.iloadN X6.here hx rfl (hb hby at_188) rfl K) ?_
  show OwnG p e below s _ _ _ (T6.setTop (mkF m 189 _ [(.int 0), (.int 0)]))
  refine own_by (fun _ K => XS.icmpYes X6.here hx rfl (pc0 := 189) (pc' := 194) rfl (hb hby at_189) rfl (teq (by decide)).1 (by decide) (by decide) K) ?_
  show OwnG p e below s _ _ _ (T6.setTop (mkF m 194 _ []))
  exact own_r0 cnt sb pb sv pl ob sa da pa ss dd cc fd1 fs1 fp fss  X6 hx hby hml hret hlk hown hnm hZ hw (rfl : T6.heap = T6.heap) N6 sz6 ⟨f7, f11, f12, f13, f14, f15, f16, f17, f18⟩ Nn Mm hP hss f8 f9 f10 gd gc 
set_option maxRecDepth 65536 in
set_option maxHeartbeats 40000000 in
theorem own_o1 {p : Program} {l : Launch} {e : Env} {s : State} {m : MethodId} {args : Array Value} {below : List Frame} {meth : Method} {c : Code} {T0 : State} {locs : List Loc} {Z : State} {a0 : Array Value} {h0 : Heap} {n0 : Nat} (cnt sb pb mk : Int32) (sv pl : Int32 → Int32) (ob pa ss dd cc : Addr) (fp fss fdd fcc : Nat → Value) (r0 : Int32) (X0 : Stand p l e room_1 s m args below meth c T0 locs (0 + 1 + 1 + 1 + 1 + 1 + 2) (0 + 4 + 4 + 4 + 4 + 5 + 32)) (hx : p.tables.exec = Jvm.exec) (hby : c.code = code) (hml : c.maxLocals = 11) (hret : meth.sig.returnType = some .boolean) (hlk : meth.locks = false) (hown : s.vm.findClass "com/example/etsinta/etsinta/search/BestRankPinLaw" = some m.cls) (hnm : meth.name = "law") (hZ : Z.Warmed39 s.vm) (hw : ∀ d ∈ tables_1, d.before a0 Z = true) (e0 : T0.heap = h0) (N0 : Fr n0 locs) (Z0 : n0 ≤ h0.size) (Ap : OwnA Z h0 pa .int 4 fp) (As : OwnA Z h0 ss .double 4 fss) (Ad : OwnA Z h0 dd .int 4 fdd) (Ac : OwnA Z h0 cc .double 4 fcc) (hP : own_P pl fp) (hss : ∀ d, own_ok d → fss d.toNatClampNeg = .double (FP.i2d (sv d))) (k_r0 : own_ok r0) (v1_0 : fdd 0 = .int r0) (v2_0 : fcc 0 = .double (FP.i2d (sv r0))) (hb0 : ¬ r0 < 0 ∧ r0 < (1 : Int32)) (hm : ((((1 : Int32) <<< (r0 &&& 31)) ||| (0 : Int32)) ||| (0 : Int32)) ||| (0 : Int32) = ((1 : Int32) <<< ((1 : Int32) &&& 31)) - (1 : Int32)) :
    OwnG p e below s (fun v h L => v = some (.int 1) ∧ Fr n0 L) room_1.cells room_1.slots (T0.setTop (mkF m 408 #[.val (.int cnt), .val (.int sb), .val (.int pb), .val (.int 1), .val (.ref ss), .val (.ref pa), .val (.ref dd), .val (.ref cc), .val (.ref ob), .val (.int 1), .val (.int mk)] [])) := by
  show OwnG p e below s _ _ _ (T0.setTop (mkF m 408 #[.val (.int cnt), .val (.int sb), .val (.int pb), .val (.int 1), .val (.ref ss), .val (.ref pa), .val (.ref dd), .val (.ref cc), .val (.ref ob), .val (.int 1), .val (.int mk)] []))
  refine own_by (fun _ K => XS.aload X0.here hx rfl (hb hby at_408) rfl rfl K) ?_
  show OwnG p e below s _ _ _ (T0.setTop (mkF m 410 _ [(.ref pa)]))
  refine own_by (fun _ K => XS.aload X0.here hx rfl (hb hby at_410) rfl rfl K) ?_
  show OwnG p e below s _ _ _ (T0.setTop (mkF m 412 _ [(.ref dd), (.ref pa)]))
  refine own_by (fun _ K => XS.aload X0.here hx rfl (hb hby at_412) rfl rfl K) ?_
  show OwnG p e below s _ _ _ (T0.setTop (mkF m 414 _ [(.ref cc), (.ref dd), (.ref pa)]))
  refine own_by (fun _ K => XS.iloadN X0.here hx rfl (hb hby at_414) rfl K) ?_
  show OwnG p e below s _ _ _ (T0.setTop (mkF m 415 _ [(.int 1), (.ref cc), (.ref dd), (.ref pa)]))
  refine own_by (fun _ K => XS.iconst X0.here hx rfl (hb hby at_415) K) ?_
  show OwnG p e below s _ _ _ (T0.setTop (mkF m 416 _ [(.int 0), (.int 1), (.ref cc), (.ref dd), (.ref pa)]))
  obtain ⟨_, _, ⟨T1, L1, k1, n1⟩, -, X1, ⟨Lc1, hQ1, l1, y1, z1⟩, st1⟩ := Jvm.LawKit.callS X0 hx (y := (⟨"com/example/etsinta/etsinta/search/BestRankPinLaw", "ordered", "([I[I[DII)Z"⟩ : MethodName)) hown (mvT hZ (own_w hw 39 rfl)) (mvT hZ (own_w hw 40 rfl)) (mvT hZ (own_w hw 34 rfl)) (mvT hZ (own_w hw 41 rfl)) (by decide) (backOf (W := 0) (rm7z l Z a0 hw [] pa dd cc (1 : Int32) (0 : Int32) h0 n0 Z0 (by decide)) hZ (own_w hw 41 rfl) (own_w hw 34 rfl) (by decide) (by decide)) (g := (mkF m 416 #[.val (.int cnt), .val (.int sb), .val (.int pb), .val (.int 1), .val (.ref ss), .val (.ref pa), .val (.ref dd), .val (.ref cc), .val (.ref ob), .val (.int 1), .val (.int mk)] [(.int 0), (.int 1), (.ref cc), (.ref dd), (.ref pa)])) rfl (by rw [hml]; rfl) (argsL := [(.ref pa), (.ref dd), (.ref cc), (.int 1), (.int 0)]) (rest := []) (lenOf pd_13 rfl) rfl (by show 2 * 0 + _ ≤ _; exact Nat.le_of_eq rfl) (hb hby at_416) (fun _ _ => ⟨rfl, e0, (by decide : 0 + 1 + 1 + 1 + 1 + 1 + 2 + 0 ≤ _), (by decide : 0 + 4 + 4 + 4 + 4 + 5 + 32 + 0 ≤ _)⟩)
  dsimp only [Pt.U, Pt.locs, Pt.cells, Pt.slots] at X1 l1 y1 z1 st1 hQ1
  subst l1 y1 z1
  refine own_by (fun _ K => st1 _ K) ?_
  obtain ⟨rfl, N1q, hh1⟩ := hQ1
  have N1 := Fr.app N0 N1q
  have f2 := Ap
  rw [← hh1] at f2
  have f3 := As
  rw [← hh1] at f3
  have f4 := Ad
  rw [← hh1] at f4
  have f5 := Ac
  rw [← hh1] at f5
  have sz1 : n0 ≤ T1.heap.size := by rw [hh1]; exact Z0
  show OwnG p e below s _ _ _ (T1.setTop (mkF m 419 _ [(.int 1)]))
  refine own_by (fun _ K => XS.ifNo X1.here hx rfl (hb hby at_419) rfl ((if0 _ _).trans (feq (by decide)).1) K) ?_
  show OwnG p e below s _ _ _ (T1.setTop (mkF m 422 _ []))
  refine own_by (fun _ K => XS.aload X1.here hx rfl (hb hby at_422) rfl rfl K) ?_
  show OwnG p e below s _ _ _ (T1.setTop (mkF m 424 _ [(.ref pa)]))
  refine own_by (fun _ K => XS.aload X1.here hx rfl (hb hby at_424) rfl rfl K) ?_
  show OwnG p e below s _ _ _ (T1.setTop (mkF m 426 _ [(.ref dd), (.ref pa)]))
  refine own_by (fun _ K => XS.aload X1.here hx rfl (hb hby at_426) rfl rfl K) ?_
  show OwnG p e below s _ _ _ (T1.setTop (mkF m 428 _ [(.ref cc), (.ref dd), (.ref pa)]))
  refine own_by (fun _ K => XS.iloadN X1.here hx rfl (hb hby at_428) rfl K) ?_
  show OwnG p e below s _ _ _ (T1.setTop (mkF m 429 _ [(.int 1), (.ref cc), (.ref dd), (.ref pa)]))
  refine own_by (fun _ K => XS.iconst X1.here hx rfl (hb hby at_429) K) ?_
  show OwnG p e below s _ _ _ (T1.setTop (mkF m 430 _ [(.int 1), (.int 1), (.ref cc), (.ref dd), (.ref pa)]))
  obtain ⟨_, _, ⟨T6, L6, k6, n6⟩, -, X6, ⟨Lc6, hQ6, l6, y6, z6⟩, st6⟩ := Jvm.LawKit.callS X1 hx (y := (⟨"com/example/etsinta/etsinta/search/BestRankPinLaw", "ordered", "([I[I[DII)Z"⟩ : MethodName)) hown (mvT hZ (own_w hw 39 rfl)) (mvT hZ (own_w hw 40 rfl)) (mvT hZ (own_w hw 34 rfl)) (mvT hZ (own_w hw 41 rfl)) (by decide) (backOf (W := 0) (rm7z l Z a0 hw [] pa dd cc (1 : Int32) (1 : Int32) T1.heap n0 sz1 (by decide)) hZ (own_w hw 41 rfl) (own_w hw 34 rfl) (by decide) (by decide)) (g := (mkF m 430 #[.val (.int cnt), .val (.int sb), .val (.int pb), .val (.int 1), .val (.ref ss), .val (.ref pa), .val (.ref dd), .val (.ref cc), .val (.ref ob), .val (.int 1), .val (.int mk)] [(.int 1), (.int 1), (.ref cc), (.ref dd), (.ref pa)])) rfl (by rw [hml]; rfl) (argsL := [(.ref pa), (.ref dd), (.ref cc), (.int 1), (.int 1)]) (rest := []) (lenOf pd_13 rfl) rfl (by show 2 * 0 + _ ≤ _; exact Nat.le_of_eq rfl) (hb hby at_430) (fun _ _ => ⟨rfl, (rfl : T1.heap = T1.heap), (by decide : 0 + 1 + 1 + 1 + 1 + 1 + 2 + 0 ≤ _), (by decide : 0 + 4 + 4 + 4 + 4 + 5 + 32 + 0 ≤ _)⟩)
  dsimp only [Pt.U, Pt.locs, Pt.cells, Pt.slots] at X6 l6 y6 z6 st6 hQ6
  subst l6 y6 z6
  refine own_by (fun _ K => st6 _ K) ?_
  obtain ⟨rfl, N6q, hh6⟩ := hQ6
  have N6 := Fr.app N1 N6q
  have f7 := f2
  rw [← hh6] at f7
  have f8 := f3
  rw [← hh6] at f8
  have f9 := f4
  rw [← hh6] at f9
  have f10 := f5
  rw [← hh6] at f10
  have sz6 : n0 ≤ T6.heap.size := by rw [hh6]; exact sz1
  show OwnG p e below s _ _ _ (T6.setTop (mkF m 433 _ [(.int 1)]))
  refine own_by (fun _ K => XS.ifNo X6.here hx rfl (hb hby at_433) rfl ((if0 _ _).trans (feq (by decide)).1) K) ?_
  show OwnG p e below s _ _ _ (T6.setTop (mkF m 436 _ []))
  refine own_by (fun _ K => XS.aload X6.here hx rfl (hb hby at_436) rfl rfl K) ?_
  show OwnG p e below s _ _ _ (T6.setTop (mkF m 438 _ [(.ref pa)]))
  refine own_by (fun _ K => XS.aload X6.here hx rfl (hb hby at_438) rfl rfl K) ?_
  show OwnG p e below s _ _ _ (T6.setTop (mkF m 440 _ [(.ref dd), (.ref pa)]))
  refine own_by (fun _ K => XS.aload X6.here hx rfl (hb hby at_440) rfl rfl K) ?_
  show OwnG p e below s _ _ _ (T6.setTop (mkF m 442 _ [(.ref cc), (.ref dd), (.ref pa)]))
  refine own_by (fun _ K => XS.iloadN X6.here hx rfl (hb hby at_442) rfl K) ?_
  show OwnG p e below s _ _ _ (T6.setTop (mkF m 443 _ [(.int 1), (.ref cc), (.ref dd), (.ref pa)]))
  refine own_by (fun _ K => XS.iconst X6.here hx rfl (hb hby at_443) K) ?_
  show OwnG p e below s _ _ _ (T6.setTop (mkF m 444 _ [(.int 2), (.int 1), (.ref cc), (.ref dd), (.ref pa)]))
  obtain ⟨_, _, ⟨T11, L11, k11, n11⟩, -, X11, ⟨Lc11, hQ11, l11, y11, z11⟩, st11⟩ := Jvm.LawKit.callS X6 hx (y := (⟨"com/example/etsinta/etsinta/search/BestRankPinLaw", "ordered", "([I[I[DII)Z"⟩ : MethodName)) hown (mvT hZ (own_w hw 39 rfl)) (mvT hZ (own_w hw 40 rfl)) (mvT hZ (own_w hw 34 rfl)) (mvT hZ (own_w hw 41 rfl)) (by decide) (backOf (W := 0) (rm7z l Z a0 hw [] pa dd cc (1 : Int32) (2 : Int32) T6.heap n0 sz6 (by decide)) hZ (own_w hw 41 rfl) (own_w hw 34 rfl) (by decide) (by decide)) (g := (mkF m 444 #[.val (.int cnt), .val (.int sb), .val (.int pb), .val (.int 1), .val (.ref ss), .val (.ref pa), .val (.ref dd), .val (.ref cc), .val (.ref ob), .val (.int 1), .val (.int mk)] [(.int 2), (.int 1), (.ref cc), (.ref dd), (.ref pa)])) rfl (by rw [hml]; rfl) (argsL := [(.ref pa), (.ref dd), (.ref cc), (.int 1), (.int 2)]) (rest := []) (lenOf pd_13 rfl) rfl (by show 2 * 0 + _ ≤ _; exact Nat.le_of_eq rfl) (hb hby at_444) (fun _ _ => ⟨rfl, (rfl : T6.heap = T6.heap), (by decide : 0 + 1 + 1 + 1 + 1 + 1 + 2 + 0 ≤ _), (by decide : 0 + 4 + 4 + 4 + 4 + 5 + 32 + 0 ≤ _)⟩)
  dsimp only [Pt.U, Pt.locs, Pt.cells, Pt.slots] at X11 l11 y11 z11 st11 hQ11
  subst l11 y11 z11
  refine own_by (fun _ K => st11 _ K) ?_
  obtain ⟨rfl, N11q, hh11⟩ := hQ11
  have N11 := Fr.app N6 N11q
  have f12 := f7
  rw [← hh11] at f12
  have f13 := f8
  rw [← hh11] at f13
  have f14 := f9
  rw [← hh11] at f14
  have f15 := f10
  rw [← hh11] at f15
  have sz11 : n0 ≤ T11.heap.size := by rw [hh11]; exact sz6
  show OwnG p e below s _ _ _ (T11.setTop (mkF m 447 _ [(.int 1)]))
  refine own_by (fun _ K => XS.ifNo X11.here hx rfl (hb hby at_447) rfl ((if0 _ _).trans (feq (by decide)).1) K) ?_
  show OwnG p e below s _ _ _ (T11.setTop (mkF m 450 _ []))
  refine own_by (fun _ K => XS.iconst X11.here hx rfl (hb hby at_450) K) ?_
  show OwnG p e below s _ _ _ (T11.setTop (mkF m 451 _ [(.int 1)]))
  refine own_by (fun _ K => XS.goto X11.here hx rfl (pc0 := 451) (pc' := 455) rfl (hb hby at_451) (by decide) (by decide) K) ?_
  show OwnG p e below s _ _ _ (T11.setTop (mkF m 455 _ [(.int 1)]))
  exact own_outN X11 hx hret (by simp) hlk (hb hby at_455) rfl (⟨rfl, N11⟩) (by decide) (by decide)
set_option maxRecDepth 65536 in
set_option maxHeartbeats 40000000 in
theorem own_e1 {p : Program} {l : Launch} {e : Env} {s : State} {m : MethodId} {args : Array Value} {below : List Frame} {meth : Method} {c : Code} {T0 : State} {locs : List Loc} {Z : State} {a0 : Array Value} {h0 : Heap} {n0 : Nat} (cnt sb pb mk : Int32) (sv pl : Int32 → Int32) (ob pa ss dd cc : Addr) (fp fss fdd fcc : Nat → Value) (r0 : Int32) (X0 : Stand p l e room_1 s m args below meth c T0 locs (0 + 1 + 1 + 1 + 1 + 1 + 2) (0 + 4 + 4 + 4 + 4 + 5 + 32)) (hx : p.tables.exec = Jvm.exec) (hby : c.code = code) (hml : c.maxLocals = 11) (hret : meth.sig.returnType = some .boolean) (hlk : meth.locks = false) (hown : s.vm.findClass "com/example/etsinta/etsinta/search/BestRankPinLaw" = some m.cls) (hnm : meth.name = "law") (hZ : Z.Warmed39 s.vm) (hw : ∀ d ∈ tables_1, d.before a0 Z = true) (e0 : T0.heap = h0) (N0 : Fr n0 locs) (Z0 : n0 ≤ h0.size) (Ap : OwnA Z h0 pa .int 4 fp) (As : OwnA Z h0 ss .double 4 fss) (Ad : OwnA Z h0 dd .int 4 fdd) (Ac : OwnA Z h0 cc .double 4 fcc) (hP : own_P pl fp) (hss : ∀ d, own_ok d → fss d.toNatClampNeg = .double (FP.i2d (sv d))) (k_r0 : own_ok r0) (v1_0 : fdd 0 = .int r0) (v2_0 : fcc 0 = .double (FP.i2d (sv r0))) (hb0 : ¬ r0 < 0 ∧ r0 < (1 : Int32)) (hm : ((((1 : Int32) <<< (r0 &&& 31)) ||| (0 : Int32)) ||| (0 : Int32)) ||| (0 : Int32) = ((1 : Int32) <<< ((1 : Int32) &&& 31)) - (1 : Int32)) :
    OwnG p e below s (fun v h L => v = some (.int 1) ∧ Fr n0 L) room_1.cells room_1.slots (T0.setTop (mkF m 293 #[.val (.int cnt), .val (.int sb), .val (.int pb), .val (.int 1), .val (.ref ss), .val (.ref pa), .val (.ref dd), .val (.ref cc), .val (.ref ob), .unset, .unset] [])) := by
  show OwnG p e below s _ _ _ (T0.setTop (mkF m 293 #[.val (.int cnt), .val (.int sb), .val (.int pb), .val (.int 1), .val (.ref ss), .val (.ref pa), .val (.ref dd), .val (.ref cc), .val (.ref ob), .unset, .unset] []))
  refine own_by (fun _ K => XS.aload X0.here hx rfl (hb hby at_293) rfl rfl K) ?_
  show OwnG p e below s _ _ _ (T0.setTop (mkF m 295 _ [(.ref dd)]))
  refine own_by (fun _ K => XS.aload X0.here hx rfl (hb hby at_295) rfl rfl K) ?_
  show OwnG p e below s _ _ _ (T0.setTop (mkF m 297 _ [(.ref cc), (.ref dd)]))
  refine own_by (fun _ K => XS.aload X0.here hx rfl (hb hby at_297) rfl rfl K) ?_
  show OwnG p e below s _ _ _ (T0.setTop (mkF m 299 _ [(.ref ss), (.ref cc), (.ref dd)]))
  refine own_by (fun _ K => XS.iloadN X0.here hx rfl (hb hby at_299) rfl K) ?_
  show OwnG p e below s _ _ _ (T0.setTop (mkF m 300 _ [(.int 1), (.ref ss), (.ref cc), (.ref dd)]))
  refine own_by (fun _ K => XS.iconst X0.here hx rfl (hb hby at_300) K) ?_
  show OwnG p e below s _ _ _ (T0.setTop (mkF m 301 _ [(.int 0), (.int 1), (.ref ss), (.ref cc), (.ref dd)]))
  obtain ⟨_, _, ⟨T1, L1, k1, n1⟩, -, X1, ⟨Lc1, hQ1, l1, y1, z1⟩, st1⟩ := Jvm.LawKit.callS X0 hx (y := (⟨"com/example/etsinta/etsinta/search/BestRankPinLaw", "entryOk", "([I[D[DII)Z"⟩ : MethodName)) hown (mvT hZ (own_w hw 32 rfl)) (mvT hZ (own_w hw 33 rfl)) (mvT hZ (own_w hw 34 rfl)) (mvT hZ (own_w hw 35 rfl)) (by decide) (backOf (W := 0) (rm5p l Z a0 hw [] sv dd cc ss (1 : Int32) (0 : Int32) r0 0 fdd fcc fss h0 n0 Z0 Ad Ac As (by decide) ⟨by decide, rfl, by decide⟩ hb0 k_r0 v1_0 v2_0 (hss r0 k_r0)) hZ (own_w hw 35 rfl) (own_w hw 34 rfl) (by decide) (by decide)) (g := (mkF m 301 #[.val (.int cnt), .val (.int sb), .val (.int pb), .val (.int 1), .val (.ref ss), .val (.ref pa), .val (.ref dd), .val (.ref cc), .val (.ref ob), .unset, .unset] [(.int 0), (.int 1), (.ref ss), (.ref cc), (.ref dd)])) rfl (by rw [hml]; rfl) (argsL := [(.ref dd), (.ref cc), (.ref ss), (.int 1), (.int 0)]) (rest := []) (lenOf pd_11 rfl) rfl (by show 2 * 0 + _ ≤ _; exact Nat.le_of_eq rfl) (hb hby at_301) (fun _ _ => ⟨rfl, e0, (by decide : 0 + 1 + 1 + 1 + 1 + 1 + 2 + 0 ≤ _), (by decide : 0 + 4 + 4 + 4 + 4 + 5 + 32 + 0 ≤ _)⟩)
  dsimp only [Pt.U, Pt.locs, Pt.cells, Pt.slots] at X1 l1 y1 z1 st1 hQ1
  subst l1 y1 z1
  refine own_by (fun _ K => st1 _ K) ?_
  obtain ⟨rfl, N1q, hh1⟩ := hQ1
  have N1 := Fr.app N0 N1q
  have f2 := Ap
  rw [← hh1] at f2
  have f3 := As
  rw [← hh1] at f3
  have f4 := Ad
  rw [← hh1] at f4
  have f5 := Ac
  rw [← hh1] at f5
  have sz1 : n0 ≤ T1.heap.size := by rw [hh1]; exact Z0
  show OwnG p e below s _ _ _ (T1.setTop (mkF m 304 _ [(.int 1)]))
  refine own_by (fun _ K => XS.ifNo X1.here hx rfl (hb hby at_304) rfl ((if0 _ _).trans (feq (by decide)).1) K) ?_
  show OwnG p e below s _ _ _ (T1.setTop (mkF m 307 _ []))
  refine own_by (fun _ K => XS.aload X1.here hx rfl (hb hby at_307) rfl rfl K) ?_
  show OwnG p e below s _ _ _ (T1.setTop (mkF m 309 _ [(.ref dd)]))
  refine own_by (fun _ K => XS.aload X1.here hx rfl (hb hby at_309) rfl rfl K) ?_
  show OwnG p e below s _ _ _ (T1.setTop (mkF m 311 _ [(.ref cc), (.ref dd)]))
  refine own_by (fun _ K => XS.aload X1.here hx rfl (hb hby at_311) rfl rfl K) ?_
  show OwnG p e below s _ _ _ (T1.setTop (mkF m 313 _ [(.ref ss), (.ref cc), (.ref dd)]))
  refine own_by (fun _ K => XS.iloadN X1.here hx rfl (hb hby at_313) rfl K) ?_
  show OwnG p e below s _ _ _ (T1.setTop (mkF m 314 _ [(.int 1), (.ref ss), (.ref cc), (.ref dd)]))
  refine own_by (fun _ K => XS.iconst X1.here hx rfl (hb hby at_314) K) ?_
  show OwnG p e below s _ _ _ (T1.setTop (mkF m 315 _ [(.int 1), (.int 1), (.ref ss), (.ref cc), (.ref dd)]))
  obtain ⟨_, _, ⟨T6, L6, k6, n6⟩, -, X6, ⟨Lc6, hQ6, l6, y6, z6⟩, st6⟩ := Jvm.LawKit.callS X1 hx (y := (⟨"com/example/etsinta/etsinta/search/BestRankPinLaw", "entryOk", "([I[D[DII)Z"⟩ : MethodName)) hown (mvT hZ (own_w hw 32 rfl)) (mvT hZ (own_w hw 33 rfl)) (mvT hZ (own_w hw 34 rfl)) (mvT hZ (own_w hw 35 rfl)) (by decide) (backOf (W := 0) (rm5z l Z a0 hw [] dd cc ss (1 : Int32) (1 : Int32) T1.heap n0 sz1 (by decide)) hZ (own_w hw 35 rfl) (own_w hw 34 rfl) (by decide) (by decide)) (g := (mkF m 315 #[.val (.int cnt), .val (.int sb), .val (.int pb), .val (.int 1), .val (.ref ss), .val (.ref pa), .val (.ref dd), .val (.ref cc), .val (.ref ob), .unset, .unset] [(.int 1), (.int 1), (.ref ss), (.ref cc), (.ref dd)])) rfl (by rw [hml]; rfl) (argsL := [(.ref dd), (.ref cc), (.ref ss), (.int 1), (.int 1)]) (rest := []) (lenOf pd_11 rfl) rfl (by show 2 * 0 + _ ≤ _; exact Nat.le_of_eq rfl) (hb hby at_315) (fun _ _ => ⟨rfl, (rfl : T1.heap = T1.heap), (by decide : 0 + 1 + 1 + 1 + 1 + 1 + 2 + 0 ≤ _), (by decide : 0 + 4 + 4 + 4 + 4 + 5 + 32 + 0 ≤ _)⟩)
  dsimp only [Pt.U, Pt.locs, Pt.cells, Pt.slots] at X6 l6 y6 z6 st6 hQ6
  subst l6 y6 z6
  refine own_by (fun _ K => st6 _ K) ?_
  obtain ⟨rfl, N6q, hh6⟩ := hQ6
  have N6 := Fr.app N1 N6q
  have f7 := f2
  rw [← hh6] at f7
  have f8 := f3
  rw [← hh6] at f8
  have f9 := f4
  rw [← hh6] at f9
  have f10 := f5
  rw [← hh6] at f10
  have sz6 : n0 ≤ T6.heap.size := by rw [hh6]; exact sz1
  show OwnG p e below s _ _ _ (T6.setTop (mkF m 318 _ [(.int 1)]))
  refine own_by (fun _ K => XS.ifNo X6.here hx rfl (hb hby at_318) rfl ((if0 _ _).trans (feq (by decide)).1) K) ?_
  show OwnG p e below s _ _ _ (T6.setTop (mkF m 321 _ []))
  refine own_by (fun _ K => XS.aload X6.here hx rfl (hb hby at_321) rfl rfl K) ?_
  show OwnG p e below s _ _ _ (T6.setTop (mkF m 323 _ [(.ref dd)]))
  refine own_by (fun _ K => XS.aload X6.here hx rfl (hb hby at_323) rfl rfl K) ?_
  show OwnG p e below s _ _ _ (T6.setTop (mkF m 325 _ [(.ref cc), (.ref dd)]))
  refine own_by (fun _ K => XS.aload X6.here hx rfl (hb hby at_325) rfl rfl K) ?_
  show OwnG p e below s _ _ _ (T6.setTop (mkF m 327 _ [(.ref ss), (.ref cc), (.ref dd)]))
  refine own_by (fun _ K => XS.iloadN X6.here hx rfl (hb hby at_327) rfl K) ?_
  show OwnG p e below s _ _ _ (T6.setTop (mkF m 328 _ [(.int 1), (.ref ss), (.ref cc), (.ref dd)]))
  refine own_by (fun _ K => XS.iconst X6.here hx rfl (hb hby at_328) K) ?_
  show OwnG p e below s _ _ _ (T6.setTop (mkF m 329 _ [(.int 2), (.int 1), (.ref ss), (.ref cc), (.ref dd)]))
  obtain ⟨_, _, ⟨T11, L11, k11, n11⟩, -, X11, ⟨Lc11, hQ11, l11, y11, z11⟩, st11⟩ := Jvm.LawKit.callS X6 hx (y := (⟨"com/example/etsinta/etsinta/search/BestRankPinLaw", "entryOk", "([I[D[DII)Z"⟩ : MethodName)) hown (mvT hZ (own_w hw 32 rfl)) (mvT hZ (own_w hw 33 rfl)) (mvT hZ (own_w hw 34 rfl)) (mvT hZ (own_w hw 35 rfl)) (by decide) (backOf (W := 0) (rm5z l Z a0 hw [] dd cc ss (1 : Int32) (2 : Int32) T6.heap n0 sz6 (by decide)) hZ (own_w hw 35 rfl) (own_w hw 34 rfl) (by decide) (by decide)) (g := (mkF m 329 #[.val (.int cnt), .val (.int sb), .val (.int pb), .val (.int 1), .val (.ref ss), .val (.ref pa), .val (.ref dd), .val (.ref cc), .val (.ref ob), .unset, .unset] [(.int 2), (.int 1), (.ref ss), (.ref cc), (.ref dd)])) rfl (by rw [hml]; rfl) (argsL := [(.ref dd), (.ref cc), (.ref ss), (.int 1), (.int 2)]) (rest := []) (lenOf pd_11 rfl) rfl (by show 2 * 0 + _ ≤ _; exact Nat.le_of_eq rfl) (hb hby at_329) (fun _ _ => ⟨rfl, (rfl : T6.heap = T6.heap), (by decide : 0 + 1 + 1 + 1 + 1 + 1 + 2 + 0 ≤ _), (by decide : 0 + 4 + 4 + 4 + 4 + 5 + 32 + 0 ≤ _)⟩)
  dsimp only [Pt.U, Pt.locs, Pt.cells, Pt.slots] at X11 l11 y11 z11 st11 hQ11
  subst l11 y11 z11
  refine own_by (fun _ K => st11 _ K) ?_
  obtain ⟨rfl, N11q, hh11⟩ := hQ11
  have N11 := Fr.app N6 N11q
  have f12 := f7
  rw [← hh11] at f12
  have f13 := f8
  rw [← hh11] at f13
  have f14 := f9
  rw [← hh11] at f14
  have f15 := f10
  rw [← hh11] at f15
  have sz11 : n0 ≤ T11.heap.size := by rw [hh11]; exact sz6
  show OwnG p e below s _ _ _ (T11.setTop (mkF m 332 _ [(.int 1)]))
  refine own_by (fun _ K => XS.ifNo X11.here hx rfl (hb hby at_332) rfl ((if0 _ _).trans (feq (by decide)).1) K) ?_
  show OwnG p e below s _ _ _ (T11.setTop (mkF m 335 _ []))
  refine own_by (fun _ K => XS.aload X11.here hx rfl (hb hby at_335) rfl rfl K) ?_
  show OwnG p e below s _ _ _ (T11.setTop (mkF m 337 _ [(.ref dd)]))
  refine own_by (fun _ K => XS.aload X11.here hx rfl (hb hby at_337) rfl rfl K) ?_
  show OwnG p e below s _ _ _ (T11.setTop (mkF m 339 _ [(.ref cc), (.ref dd)]))
  refine own_by (fun _ K => XS.aload X11.here hx rfl (hb hby at_339) rfl rfl K) ?_
  show OwnG p e below s _ _ _ (T11.setTop (mkF m 341 _ [(.ref ss), (.ref cc), (.ref dd)]))
  refine own_by (fun _ K => XS.iloadN X11.here hx rfl (hb hby at_341) rfl K) ?_
  show OwnG p e below s _ _ _ (T11.setTop (mkF m 342 _ [(.int 1), (.ref ss), (.ref cc), (.ref dd)]))
  refine own_by (fun _ K => XS.iconst X11.here hx rfl (hb hby at_342) K) ?_
  show OwnG p e below s _ _ _ (T11.setTop (mkF m 343 _ [(.int 3), (.int 1), (.ref ss), (.ref cc), (.ref dd)]))
  obtain ⟨_, _, ⟨T16, L16, k16, n16⟩, -, X16, ⟨Lc16, hQ16, l16, y16, z16⟩, st16⟩ := Jvm.LawKit.callS X11 hx (y := (⟨"com/example/etsinta/etsinta/search/BestRankPinLaw", "entryOk", "([I[D[DII)Z"⟩ : MethodName)) hown (mvT hZ (own_w hw 32 rfl)) (mvT hZ (own_w hw 33 rfl)) (mvT hZ (own_w hw 34 rfl)) (mvT hZ (own_w hw 35 rfl)) (by decide) (backOf (W := 0) (rm5z l Z a0 hw [] dd cc ss (1 : Int32) (3 : Int32) T11.heap n0 sz11 (by decide)) hZ (own_w hw 35 rfl) (own_w hw 34 rfl) (by decide) (by decide)) (g := (mkF m 343 #[.val (.int cnt), .val (.int sb), .val (.int pb), .val (.int 1), .val (.ref ss), .val (.ref pa), .val (.ref dd), .val (.ref cc), .val (.ref ob), .unset, .unset] [(.int 3), (.int 1), (.ref ss), (.ref cc), (.ref dd)])) rfl (by rw [hml]; rfl) (argsL := [(.ref dd), (.ref cc), (.ref ss), (.int 1), (.int 3)]) (rest := []) (lenOf pd_11 rfl) rfl (by show 2 * 0 + _ ≤ _; exact Nat.le_of_eq rfl) (hb hby at_343) (fun _ _ => ⟨rfl, (rfl : T11.heap = T11.heap), (by decide : 0 + 1 + 1 + 1 + 1 + 1 + 2 + 0 ≤ _), (by decide : 0 + 4 + 4 + 4 + 4 + 5 + 32 + 0 ≤ _)⟩)
  dsimp only [Pt.U, Pt.locs, Pt.cells, Pt.slots] at X16 l16 y16 z16 st16 hQ16
  subst l16 y16 z16
  refine own_by (fun _ K => st16 _ K) ?_
  obtain ⟨rfl, N16q, hh16⟩ := hQ16
  have N16 := Fr.app N11 N16q
  have f17 := f12
  rw [← hh16] at f17
  have f18 := f13
  rw [← hh16] at f18
  have f19 := f14
  rw [← hh16] at f19
  have f20 := f15
  rw [← hh16] at f20
  have sz16 : n0 ≤ T16.heap.size := by rw [hh16]; exact sz11
  show OwnG p e below s _ _ _ (T16.setTop (mkF m 346 _ [(.int 1)]))
  refine own_by (fun _ K => XS.ifNo X16.here hx rfl (hb hby at_346) rfl ((if0 _ _).trans (feq (by decide)).1) K) ?_
  show OwnG p e below s _ _ _ (T16.setTop (mkF m 349 _ []))
  refine own_by (fun _ K => XS.iconst X16.here hx rfl (hb hby at_349) K) ?_
  show OwnG p e below s _ _ _ (T16.setTop (mkF m 350 _ [(.int 1)]))
  refine own_by (fun _ K => XS.goto X16.here hx rfl (pc0 := 350) (pc' := 354) rfl (hb hby at_350) (by decide) (by decide) K) ?_
  show OwnG p e below s _ _ _ (T16.setTop (mkF m 354 _ [(.int 1)]))
  refine own_by (fun _ K => XS.istore X16.here hx rfl (hb hby at_354) rfl (l' := #[.val (.int cnt), .val (.int sb), .val (.int pb), .val (.int 1), .val (.ref ss), .val (.ref pa), .val (.ref dd), .val (.ref cc), .val (.ref ob), .val (.int 1), .unset]) rfl K) ?_
  show OwnG p e below s _ _ _ (T16.setTop (mkF m 356 _ []))
  refine own_by (fun _ K => XS.iload X16.here hx rfl (hb hby at_356) rfl K) ?_
  show OwnG p e below s _ _ _ (T16.setTop (mkF m 358 _ [(.int 1)]))
  refine own_by (fun _ K => XS.ifYes X16.here hx rfl (pc0 := 358) (pc' := 363) rfl (hb hby at_358) rfl ((if0 _ _).trans (feq (by decide)).2) (by decide) (by decide) K) ?_
  show OwnG p e below s _ _ _ (T16.setTop (mkF m 363 _ []))
  refine own_by (fun _ K => XS.aload X16.here hx rfl (hb hby at_363) rfl rfl K) ?_
  show OwnG p e below s _ _ _ (T16.setTop (mkF m 365 _ [(.ref dd)]))
  refine own_by (fun _ K => XS.iloadN X16.here hx rfl (hb hby at_365) rfl K) ?_
  show OwnG p e below s _ _ _ (T16.setTop (mkF m 366 _ [(.int 1), (.ref dd)]))
  refine own_by (fun _ K => XS.iconst X16.here hx rfl (hb hby at_366) K) ?_
  show OwnG p e below s _ _ _ (T16.setTop (mkF m 367 _ [(.int 0), (.int 1), (.ref dd)]))
  obtain ⟨_, _, ⟨T21, L21, k21, n21⟩, -, X21, ⟨Lc21, hQ21, l21, y21, z21⟩, st21⟩ := Jvm.LawKit.callS X16 hx (y := (⟨"com/example/etsinta/etsinta/search/BestRankPinLaw", "bit", "([III)I"⟩ : MethodName)) hown (mvT hZ (own_w hw 36 rfl)) (mvT hZ (own_w hw 37 rfl)) (mvT hZ (own_w hw 34 rfl)) (mvT hZ (own_w hw 38 rfl)) (by decide) (backOf (W := 0) (rm6p l Z a0 hw [] dd (1 : Int32) (0 : Int32) r0 0 fdd T16.heap n0 sz16 f19 (by decide) ⟨by decide, rfl, by decide⟩ v1_0) hZ (own_w hw 38 rfl) (own_w hw 34 rfl) (by decide) (by decide)) (g := (mkF m 367 #[.val (.int cnt), .val (.int sb), .val (.int pb), .val (.int 1), .val (.ref ss), .val (.ref pa), .val (.ref dd), .val (.ref cc), .val (.ref ob), .val (.int 1), .unset] [(.int 0), (.int 1), (.ref dd)])) rfl (by rw [hml]; rfl) (argsL := [(.ref dd), (.int 1), (.int 0)]) (rest := []) (lenOf pd_12 rfl) rfl (by show 2 * 0 + _ ≤ _; exact Nat.le_of_eq rfl) (hb hby at_367) (fun _ _ => ⟨rfl, (rfl : T16.heap = T16.heap), (by decide : 0 + 1 + 1 + 1 + 1 + 1 + 2 + 0 ≤ _), (by decide : 0 + 4 + 4 + 4 + 4 + 5 + 32 + 0 ≤ _)⟩)
  dsimp only [Pt.U, Pt.locs, Pt.cells, Pt.slots] at X21 l21 y21 z21 st21 hQ21
  subst l21 y21 z21
  refine own_by (fun _ K => st21 _ K) ?_
  obtain ⟨rfl, N21q, hh21⟩ := hQ21
  have N21 := Fr.app N16 N21q
  have f22 := f17
  rw [← hh21] at f22
  have f23 := f18
  rw [← hh21] at f23
  have f24 := f19
  rw [← hh21] at f24
  have f25 := f20
  rw [← hh21] at f25
  have sz21 : n0 ≤ T21.heap.size := by rw [hh21]; exact sz16
  show OwnG p e below s _ _ _ (T21.setTop (mkF m 370 _ [(.int ((1 : Int32) <<< (r0 &&& 31)))]))
  refine own_by (fun _ K => XS.aload X21.here hx rfl (hb hby at_370) rfl rfl K) ?_
  show OwnG p e below s _ _ _ (T21.setTop (mkF m 372 _ [(.ref dd), (.int ((1 : Int32) <<< (r0 &&& 31)))]))
  refine own_by (fun _ K => XS.iloadN X21.here hx rfl (hb hby at_372) rfl K) ?_
  show OwnG p e below s _ _ _ (T21.setTop (mkF m 373 _ [(.int 1), (.ref dd), (.int ((1 : Int32) <<< (r0 &&& 31)))]))
  refine own_by (fun _ K => XS.iconst X21.here hx rfl (hb hby at_373) K) ?_
  show OwnG p e below s _ _ _ (T21.setTop (mkF m 374 _ [(.int 1), (.int 1), (.ref dd), (.int ((1 : Int32) <<< (r0 &&& 31)))]))
  obtain ⟨_, _, ⟨T26, L26, k26, n26⟩, -, X26, ⟨Lc26, hQ26, l26, y26, z26⟩, st26⟩ := Jvm.LawKit.callS X21 hx (y := (⟨"com/example/etsinta/etsinta/search/BestRankPinLaw", "bit", "([III)I"⟩ : MethodName)) hown (mvT hZ (own_w hw 36 rfl)) (mvT hZ (own_w hw 37 rfl)) (mvT hZ (own_w hw 34 rfl)) (mvT hZ (own_w hw 38 rfl)) (by decide) (backOf (W := 1) (rm6z l Z a0 hw [] dd (1 : Int32) (1 : Int32) T21.heap n0 sz21 (by decide)) hZ (own_w hw 38 rfl) (own_w hw 34 rfl) (by decide) (by decide)) (g := (mkF m 374 #[.val (.int cnt), .val (.int sb), .val (.int pb), .val (.int 1), .val (.ref ss), .val (.ref pa), .val (.ref dd), .val (.ref cc), .val (.ref ob), .val (.int 1), .unset] [(.int 1), (.int 1), (.ref dd), (.int ((1 : Int32) <<< (r0 &&& 31)))])) rfl (by rw [hml]; rfl) (argsL := [(.ref dd), (.int 1), (.int 1)]) (rest := [(.int ((1 : Int32) <<< (r0 &&& 31)))]) (lenOf pd_12 rfl) rfl (by show 2 * 0 + _ ≤ _; exact Nat.le_of_eq rfl) (hb hby at_374) (fun _ _ => ⟨rfl, (rfl : T21.heap = T21.heap), (by decide : 0 + 1 + 1 + 1 + 1 + 1 + 2 + 0 ≤ _), (by decide : 0 + 4 + 4 + 4 + 4 + 5 + 32 + 0 ≤ _)⟩)
  dsimp only [Pt.U, Pt.locs, Pt.cells, Pt.slots] at X26 l26 y26 z26 st26 hQ26
  subst l26 y26 z26
  refine own_by (fun _ K => st26 _ K) ?_
  obtain ⟨rfl, N26q, hh26⟩ := hQ26
  have N26 := Fr.app N21 N26q
  have f27 := f22
  rw [← hh26] at f27
  have f28 := f23
  rw [← hh26] at f28
  have f29 := f24
  rw [← hh26] at f29
  have f30 := f25
  rw [← hh26] at f30
  have sz26 : n0 ≤ T26.heap.size := by rw [hh26]; exact sz21
  show OwnG p e below s _ _ _ (T26.setTop (mkF m 377 _ [(.int 0), (.int ((1 : Int32) <<< (r0 &&& 31)))]))
  refine own_by (fun _ K => XS.ior X26.here hx rfl (hb hby at_377) rfl K) ?_
  show OwnG p e below s _ _ _ (T26.setTop (mkF m 378 _ [(.int (((1 : Int32) <<< (r0 &&& 31)) ||| (0 : Int32)))]))
  refine own_by (fun _ K => XS.aload X26.here hx rfl (hb hby at_378) rfl rfl K) ?_
  show OwnG p e below s _ _ _ (T26.setTop (mkF m 380 _ [(.ref dd), (.int (((1 : Int32) <<< (r0 &&& 31)) ||| (0 : Int32)))]))
  refine own_by (fun _ K => XS.iloadN X26.here hx rfl (hb hby at_380) rfl K) ?_
  show OwnG p e below s _ _ _ (T26.setTop (mkF m 381 _ [(.int 1), (.ref dd), (.int (((1 : Int32) <<< (r0 &&& 31)) ||| (0 : Int32)))]))
  refine own_by (fun _ K => XS.iconst X26.here hx rfl (hb hby at_381) K) ?_
  show OwnG p e below s _ _ _ (T26.setTop (mkF m 382 _ [(.int 2), (.int 1), (.ref dd), (.int (((1 : Int32) <<< (r0 &&& 31)) ||| (0 : Int32)))]))
  obtain ⟨_, _, ⟨T31, L31, k31, n31⟩, -, X31, ⟨Lc31, hQ31, l31, y31, z31⟩, st31⟩ := Jvm.LawKit.callS X26 hx (y := (⟨"com/example/etsinta/etsinta/search/BestRankPinLaw", "bit", "([III)I"⟩ : MethodName)) hown (mvT hZ (own_w hw 36 rfl)) (mvT hZ (own_w hw 37 rfl)) (mvT hZ (own_w hw 34 rfl)) (mvT hZ (own_w hw 38 rfl)) (by decide) (backOf (W := 1) (rm6z l Z a0 hw [] dd (1 : Int32) (2 : Int32) T26.heap n0 sz26 (by decide)) hZ (own_w hw 38 rfl) (own_w hw 34 rfl) (by decide) (by decide)) (g := (mkF m 382 #[.val (.int cnt), .val (.int sb), .val (.int pb), .val (.int 1), .val (.ref ss), .val (.ref pa), .val (.ref dd), .val (.ref cc), .val (.ref ob), .val (.int 1), .unset] [(.int 2), (.int 1), (.ref dd), (.int (((1 : Int32) <<< (r0 &&& 31)) ||| (0 : Int32)))])) rfl (by rw [hml]; rfl) (argsL := [(.ref dd), (.int 1), (.int 2)]) (rest := [(.int (((1 : Int32) <<< (r0 &&& 31)) ||| (0 : Int32)))]) (lenOf pd_12 rfl) rfl (by show 2 * 0 + _ ≤ _; exact Nat.le_of_eq rfl) (hb hby at_382) (fun _ _ => ⟨rfl, (rfl : T26.heap = T26.heap), (by decide : 0 + 1 + 1 + 1 + 1 + 1 + 2 + 0 ≤ _), (by decide : 0 + 4 + 4 + 4 + 4 + 5 + 32 + 0 ≤ _)⟩)
  dsimp only [Pt.U, Pt.locs, Pt.cells, Pt.slots] at X31 l31 y31 z31 st31 hQ31
  subst l31 y31 z31
  refine own_by (fun _ K => st31 _ K) ?_
  obtain ⟨rfl, N31q, hh31⟩ := hQ31
  have N31 := Fr.app N26 N31q
  have f32 := f27
  rw [← hh31] at f32
  have f33 := f28
  rw [← hh31] at f33
  have f34 := f29
  rw [← hh31] at f34
  have f35 := f30
  rw [← hh31] at f35
  have sz31 : n0 ≤ T31.heap.size := by rw [hh31]; exact sz26
  show OwnG p e below s _ _ _ (T31.setTop (mkF m 385 _ [(.int 0), (.int (((1 : Int32) <<< (r0 &&& 31)) ||| (0 : Int32)))]))
  refine own_by (fun _ K => XS.ior X31.here hx rfl (hb hby at_385) rfl K) ?_
  show OwnG p e below s _ _ _ (T31.setTop (mkF m 386 _ [(.int ((((1 : Int32) <<< (r0 &&& 31)) ||| (0 : Int32)) ||| (0 : Int32)))]))
  refine own_by (fun _ K => XS.aload X31.here hx rfl (hb hby at_386) rfl rfl K) ?_
  show OwnG p e below s _ _ _ (T31.setTop (mkF m 388 _ [(.ref dd), (.int ((((1 : Int32) <<< (r0 &&& 31)) ||| (0 : Int32)) ||| (0 : Int32)))]))
  refine own_by (fun _ K => XS.iloadN X31.here hx rfl (hb hby at_388) rfl K) ?_
  show OwnG p e below s _ _ _ (T31.setTop (mkF m 389 _ [(.int 1), (.ref dd), (.int ((((1 : Int32) <<< (r0 &&& 31)) ||| (0 : Int32)) ||| (0 : Int32)))]))
  refine own_by (fun _ K => XS.iconst X31.here hx rfl (hb hby at_389) K) ?_
  show OwnG p e below s _ _ _ (T31.setTop (mkF m 390 _ [(.int 3), (.int 1), (.ref dd), (.int ((((1 : Int32) <<< (r0 &&& 31)) ||| (0 : Int32)) ||| (0 : Int32)))]))
  obtain ⟨_, _, ⟨T36, L36, k36, n36⟩, -, X36, ⟨Lc36, hQ36, l36, y36, z36⟩, st36⟩ := Jvm.LawKit.callS X31 hx (y := (⟨"com/example/etsinta/etsinta/search/BestRankPinLaw", "bit", "([III)I"⟩ : MethodName)) hown (mvT hZ (own_w hw 36 rfl)) (mvT hZ (own_w hw 37 rfl)) (mvT hZ (own_w hw 34 rfl)) (mvT hZ (own_w hw 38 rfl)) (by decide) (backOf (W := 1) (rm6z l Z a0 hw [] dd (1 : Int32) (3 : Int32) T31.heap n0 sz31 (by decide)) hZ (own_w hw 38 rfl) (own_w hw 34 rfl) (by decide) (by decide)) (g := (mkF m 390 #[.val (.int cnt), .val (.int sb), .val (.int pb), .val (.int 1), .val (.ref ss), .val (.ref pa), .val (.ref dd), .val (.ref cc), .val (.ref ob), .val (.int 1), .unset] [(.int 3), (.int 1), (.ref dd), (.int ((((1 : Int32) <<< (r0 &&& 31)) ||| (0 : Int32)) ||| (0 : Int32)))])) rfl (by rw [hml]; rfl) (argsL := [(.ref dd), (.int 1), (.int 3)]) (rest := [(.int ((((1 : Int32) <<< (r0 &&& 31)) ||| (0 : Int32)) ||| (0 : Int32)))]) (lenOf pd_12 rfl) rfl (by show 2 * 0 + _ ≤ _; exact Nat.le_of_eq rfl) (hb hby at_390) (fun _ _ => ⟨rfl, (rfl : T31.heap = T31.heap), (by decide : 0 + 1 + 1 + 1 + 1 + 1 + 2 + 0 ≤ _), (by decide : 0 + 4 + 4 + 4 + 4 + 5 + 32 + 0 ≤ _)⟩)
  dsimp only [Pt.U, Pt.locs, Pt.cells, Pt.slots] at X36 l36 y36 z36 st36 hQ36
  subst l36 y36 z36
  refine own_by (fun _ K => st36 _ K) ?_
  obtain ⟨rfl, N36q, hh36⟩ := hQ36
  have N36 := Fr.app N31 N36q
  have f37 := f32
  rw [← hh36] at f37
  have f38 := f33
  rw [← hh36] at f38
  have f39 := f34
  rw [← hh36] at f39
  have f40 := f35
  rw [← hh36] at f40
  have sz36 : n0 ≤ T36.heap.size := by rw [hh36]; exact sz31
  show OwnG p e below s _ _ _ (T36.setTop (mkF m 393 _ [(.int 0), (.int ((((1 : Int32) <<< (r0 &&& 31)) ||| (0 : Int32)) ||| (0 : Int32)))]))
  refine own_by (fun _ K => XS.ior X36.here hx rfl (hb hby at_393) rfl K) ?_
  show OwnG p e below s _ _ _ (T36.setTop (mkF m 394 _ [(.int (((((1 : Int32) <<< (r0 &&& 31)) ||| (0 : Int32)) ||| (0 : Int32)) ||| (0 : Int32)))]))
  refine own_by (fun _ K => XS.istore X36.here hx rfl (hb hby at_394) rfl (l' := #[.val (.int cnt), .val (.int sb), .val (.int pb), .val (.int 1), .val (.ref ss), .val (.ref pa), .val (.ref dd), .val (.ref cc), .val (.ref ob), .val (.int 1), .val (.int (((((1 : Int32) <<< (r0 &&& 31)) ||| (0 : Int32)) ||| (0 : Int32)) ||| (0 : Int32)))]) rfl K) ?_
  show OwnG p e below s _ _ _ (T36.setTop (mkF m 396 _ []))
  refine own_by (fun _ K => XS.iload X36.here hx rfl (hb hby at_396) rfl K) ?_
  show OwnG p e below s _ _ _ (T36.setTop (mkF m 398 _ [(.int (((((1 : Int32) <<< (r0 &&& 31)) ||| (0 : Int32)) ||| (0 : Int32)) ||| (0 : Int32)))]))
  refine own_by (fun _ K => XS.iconst X36.here hx rfl (hb hby at_398) K) ?_
  show OwnG p e below s _ _ _ (T36.setTop (mkF m 399 _ [(.int 1), (.int (((((1 : Int32) <<< (r0 &&& 31)) ||| (0 : Int32)) ||| (0 : Int32)) ||| (0 : Int32)))]))
  refine own_by (fun _ K => XS.iloadN X36.here hx rfl (hb hby at_399) rfl K) ?_
  show OwnG p e below s _ _ _ (T36.setTop (mkF m 400 _ [(.int 1), (.int 1), (.int (((((1 : Int32) <<< (r0 &&& 31)) ||| (0 : Int32)) ||| (0 : Int32)) ||| (0 : Int32)))]))
  refine own_by (fun _ K => XS.ishl X36.here hx rfl (hb hby at_400) rfl K) ?_
  show OwnG p e below s _ _ _ (T36.setTop (mkF m 401 _ [(.int ((1 : Int32) <<< ((1 : Int32) &&& 31))), (.int (((((1 : Int32) <<< (r0 &&& 31)) ||| (0 : Int32)) ||| (0 : Int32)) ||| (0 : Int32)))]))
  refine own_by (fun _ K => XS.iconst X36.here hx rfl (hb hby at_401) K) ?_
  show OwnG p e below s _ _ _ (T36.setTop (mkF m 402 _ [(.int 1), (.int ((1 : Int32) <<< ((1 : Int32) &&& 31))), (.int (((((1 : Int32) <<< (r0 &&& 31)) ||| (0 : Int32)) ||| (0 : Int32)) ||| (0 : Int32)))]))
  refine own_by (fun _ K => XS.isub X36.here hx rfl (hb hby at_402) rfl K) ?_
  show OwnG p e below s _ _ _ (T36.setTop (mkF m 403 _ [(.int (((1 : Int32) <<< ((1 : Int32) &&& 31)) - (1 : Int32))), (.int (((((1 : Int32) <<< (r0 &&& 31)) ||| (0 : Int32)) ||| (0 : Int32)) ||| (0 : Int32)))]))
  refine own_by (fun _ K => XS.icmpYes X36.here hx rfl (pc0 := 403) (pc' := 408) rfl (hb hby at_403) rfl (teq hm).1 (by decide) (by decide) K) ?_
  show OwnG p e below s _ _ _ (T36.setTop (mkF m 408 _ []))
  exact own_o1 cnt sb pb _ sv pl ob pa ss dd cc fp fss fdd fcc r0 X36 hx hby hml hret hlk hown hnm hZ hw (rfl : T36.heap = T36.heap) N36 sz36 f37 f38 f39 f40 hP hss k_r0 v1_0 v2_0 hb0 hm
set_option maxRecDepth 65536 in
set_option maxHeartbeats 40000000 in
theorem own_r1 {p : Program} {l : Launch} {e : Env} {s : State} {m : MethodId} {args : Array Value} {below : List Frame} {meth : Method} {c : Code} {T0 : State} {locs : List Loc} {Z : State} {a0 : Array Value} {h0 : Heap} {n0 : Nat} (cnt sb pb : Int32) (sv pl : Int32 → Int32) (ob sa da pa ss dd cc : Addr) (fd fs fp fss : Nat → Value) (r0 : Int32) (X0 : Stand p l e room_1 s m args below meth c T0 locs (0 + 1 + 1 + 1 + 1 + 1 + 2) (0 + 4 + 4 + 4 + 4 + 5 + 32)) (hx : p.tables.exec = Jvm.exec) (hby : c.code = code) (hml : c.maxLocals = 11) (hret : meth.sig.returnType = some .boolean) (hlk : meth.locks = false) (hown : s.vm.findClass "com/example/etsinta/etsinta/search/BestRankPinLaw" = some m.cls) (hnm : meth.name = "law") (hZ : Z.Warmed39 s.vm) (hw : ∀ d ∈ tables_1, d.before a0 Z = true) (e0 : T0.heap = h0) (N0 : Fr n0 locs) (Z0 : n0 ≤ h0.size) (Sb : own_S Z h0 ob sa da pa (1 : Int32) fd fs fp) (Nn : own_N n0 ob sa da pa) (Mm : own_M ob sa da pa ss dd cc) (hP : own_P pl fp) (hss : ∀ d, own_ok d → fss d.toNatClampNeg = .double (FP.i2d (sv d))) (As : OwnA Z h0 ss .double 4 fss) (Ad : OwnA Z h0 dd .int 4 (fun _ => (defaultValue .int))) (Ac : OwnA Z h0 cc .double 4 (fun _ => (defaultValue .double))) (gd : n0 ≤ dd) (gc : n0 ≤ cc) (t0 : own_at sv fd fs 0 r0) (hb0 : ¬ r0 < 0 ∧ r0 < (1 : Int32)) (hm : ((((1 : Int32) <<< (r0 &&& 31)) ||| (0 : Int32)) ||| (0 : Int32)) ||| (0 : Int32) = ((1 : Int32) <<< ((1 : Int32) &&& 31)) - (1 : Int32)) :
    OwnG p e below s (fun v h L => v = some (.int 1) ∧ Fr n0 L) room_1.cells room_1.slots (T0.setTop (mkF m 194 #[.val (.int cnt), .val (.int sb), .val (.int pb), .val (.int 1), .val (.ref ss), .val (.ref pa), .val (.ref dd), .val (.ref cc), .val (.ref ob), .unset, .unset] [])) := by
  show OwnG p e below s _ _ _ (T0.setTop (mkF m 194 #[.val (.int cnt), .val (.int sb), .val (.int pb), .val (.int 1), .val (.ref ss), .val (.ref pa), .val (.ref dd), .val (.ref cc), .val (.ref ob), .unset, .unset] []))
  refine own_by (fun _ K => XS.iloadN X0.here hx rfl (hb hby at_194) rfl K) ?_
  show OwnG p e below s _ _ _ (T0.setTop (mkF m 195 _ [(.int 1)]))
  refine own_by (fun _ K => XS.ifNo X0.here hx rfl (hb hby at_195) rfl ((if0 _ _).trans (tlt (by decide)).2.2.2) K) ?_
  show OwnG p e below s _ _ _ (T0.setTop (mkF m 198 _ []))
  refine own_by (fun _ K => XS.aload X0.here hx rfl (hb hby at_198) rfl rfl K) ?_
  show OwnG p e below s _ _ _ (T0.setTop (mkF m 200 _ [(.ref dd)]))
  refine own_by (fun _ K => XS.iconst X0.here hx rfl (hb hby at_200) K) ?_
  show OwnG p e below s _ _ _ (T0.setTop (mkF m 201 _ [(.int 0), (.ref dd)]))
  refine own_by (fun _ K => XS.aload X0.here hx rfl (hb hby at_201) rfl rfl K) ?_
  show OwnG p e below s _ _ _ (T0.setTop (mkF m 203 _ [(.ref ob), (.int 0), (.ref dd)]))
  refine own_by (fun _ K => XS.iconst X0.here hx rfl (hb hby at_203) K) ?_
  show OwnG p e below s _ _ _ (T0.setTop (mkF m 204 _ [(.int 0), (.ref ob), (.int 0), (.ref dd)]))
  obtain ⟨cq1, kq1, q1a, q1b, q1c⟩ := isOf hZ e0 Sb.1
  obtain ⟨_, _, ⟨T1, L1, k1, n1⟩, -, X1, ⟨Lc1, hQ1, l1, y1, z1⟩, st1⟩ := X0.virtualBack hx (y := (⟨"com/example/etsinta/etsinta/search/Best", "document", "(I)I"⟩ : MethodName)) (z := (⟨"com/example/etsinta/etsinta/search/Best", "document", "(I)I"⟩ : MethodName)) hown (mvT hZ (own_w hw 51 rfl)) (mvT hZ (own_w hw 52 rfl)) (notFace_of_selects (args := #[]) (mvT hZ (own_w hw 54 rfl))) (mvT hZ (own_w hw 54 rfl)) (mvT hZ (own_w hw 53 rfl)) (by decide) (backOf (W := 2) (rm10 l Z a0 hw [] ob sa da pa (1 : Int32) fd fs fp (0 : Int32) 0 r0 h0 n0 Z0 ⟨Sb.1, Sb.2.1, Sb.2.2.1, Sb.2.2.2.1, Sb.2.2.2.2.1, Sb.2.2.2.2.2.1, Sb.2.2.2.2.2.2.1, Sb.2.2.2.2.2.2.2.1, Sb.2.2.2.2.2.2.2.2⟩ ⟨by decide, rfl, by decide⟩ (by decide) t0.1) hZ (own_w hw 55 rfl) (own_w hw 5 rfl) (by decide) (by decide)) q1a q1c (g := (mkF m 204 #[.val (.int cnt), .val (.int sb), .val (.int pb), .val (.int 1), .val (.ref ss), .val (.ref pa), .val (.ref dd), .val (.ref cc), .val (.ref ob), .unset, .unset] [(.int 0), (.ref ob), (.int 0), (.ref dd)])) rfl (by rw [hml]; rfl) (Steps.refl _) (argsL := [(.int 0)]) (rest := [(.int 0), (.ref dd)]) (lenOf pd_9 rfl) rfl (by show 2 * 0 + _ ≤ _; exact Nat.le_of_eq rfl) (hb hby at_204) (fun _ _ => ⟨rfl, e0, (by decide : 0 + 1 + 1 + 1 + 1 + 1 + 2 + 0 ≤ _), (by decide : 0 + 4 + 4 + 4 + 4 + 5 + 32 + 0 ≤ _)⟩)
  dsimp only [Pt.U, Pt.locs, Pt.cells, Pt.slots] at X1 l1 y1 z1 st1 hQ1
  subst l1 y1 z1
  refine own_by (fun _ K => st1.trans K) ?_
  obtain ⟨rfl, N1q, hh1⟩ := hQ1
  have N1 := Fr.app N0 N1q
  have f2 := Sb.1
  rw [← hh1] at f2
  have f3 := Sb.2.1
  rw [← hh1] at f3
  have f4 := Sb.2.2.1
  rw [← hh1] at f4
  have f5 := Sb.2.2.2.1
  rw [← hh1] at f5
  have f6 := Sb.2.2.2.2.1
  rw [← hh1] at f6
  have f7 := Sb.2.2.2.2.2.1
  rw [← hh1] at f7
  have f8 := Sb.2.2.2.2.2.2.1
  rw [← hh1] at f8
  have f9 := Sb.2.2.2.2.2.2.2.1
  rw [← hh1] at f9
  have f10 := Sb.2.2.2.2.2.2.2.2
  rw [← hh1] at f10
  have f11 := As
  rw [← hh1] at f11
  have f12 := Ad
  rw [← hh1] at f12
  have f13 := Ac
  rw [← hh1] at f13
  have sz1 : n0 ≤ T1.heap.size := by rw [hh1]; exact Z0
  show OwnG p e below s _ _ _ (T1.setTop (mkF m 207 _ [(.int r0), (.int 0), (.ref dd)]))
  obtain ⟨T14, h14, X14, e14, W14, A14, st14⟩ := own_stI X1 hx hZ (rfl : T1.heap = T1.heap) f12 (j := (0 : Int32)) (i := 0) ⟨by decide, rfl, by decide⟩ (g := (mkF m 207 #[.val (.int cnt), .val (.int sb), .val (.int pb), .val (.int 1), .val (.ref ss), .val (.ref pa), .val (.ref dd), .val (.ref cc), .val (.ref ob), .unset, .unset] [(.int r0), (.int 0), (.ref dd)])) rfl rfl (hb hby at_207)
  refine own_by (fun _ K => st14 _ K) ?_
  have f15 := Exa.wr W14 f2
  have f16 := Fld.other W14 f3 (Or.inl (Ne.symm Mm.2.2.2.1))
  have f17 := Fld.other W14 f4 (Or.inl (Ne.symm Mm.2.2.2.1))
  have f18 := Fld.other W14 f5 (Or.inl (Ne.symm Mm.2.2.2.1))
  have f19 := Fld.other W14 f6 (Or.inl (Ne.symm Mm.2.2.2.1))
  have f20 := Fld.other W14 f7 (Or.inl (Ne.symm Mm.2.2.2.1))
  have f21 := OwnA.other W14 f8 (Ne.symm Mm.2.2.2.2.2.1)
  have f22 := OwnA.other W14 f9 (Ne.symm Mm.2.2.2.2.1)
  have f23 := OwnA.other W14 f10 Mm.2.2.2.2.2.2.2.2.2.2.1
  have f24 := OwnA.other W14 f11 Mm.2.2.2.2.2.2.2.2.2.1
  have f26 := OwnA.other W14 f13 (Ne.symm Mm.2.2.2.2.2.2.2.2.2.2.2.2.2)
  have N14 := Fr.snoc X14 N1 gd
  have sz14 : n0 ≤ h14.size := by rw [W14.size]; exact sz1
  show OwnG p e below s _ _ _ (T14.setTop (mkF m 208 _ []))
  refine own_by (fun _ K => XS.aload X14.here hx rfl (hb hby at_208) rfl rfl K) ?_
  show OwnG p e below s _ _ _ (T14.setTop (mkF m 210 _ [(.ref cc)]))
  refine own_by (fun _ K => XS.iconst X14.here hx rfl (hb hby at_210) K) ?_
  show OwnG p e below s _ _ _ (T14.setTop (mkF m 211 _ [(.int 0), (.ref cc)]))
  refine own_by (fun _ K => XS.aload X14.here hx rfl (hb hby at_211) rfl rfl K) ?_
  show OwnG p e below s _ _ _ (T14.setTop (mkF m 213 _ [(.ref ob), (.int 0), (.ref cc)]))
  refine own_by (fun _ K => XS.iconst X14.here hx rfl (hb hby at_213) K) ?_
  show OwnG p e below s _ _ _ (T14.setTop (mkF m 214 _ [(.int 0), (.ref ob), (.int 0), (.ref cc)]))
  obtain ⟨cq27, kq27, q27a, q27b, q27c⟩ := isOf hZ e14 f15
  obtain ⟨_, _, ⟨T27, L27, k27, n27⟩, -, X27, ⟨Lc27, hQ27, l27, y27, z27⟩, st27⟩ := X14.virtualBack hx (y := (⟨"com/example/etsinta/etsinta/search/Best", "score", "(I)D"⟩ : MethodName)) (z := (⟨"com/example/etsinta/etsinta/search/Best", "score", "(I)D"⟩ : MethodName)) hown (mvT hZ (own_w hw 64 rfl)) (mvT hZ (own_w hw 65 rfl)) (notFace_of_selects (args := #[]) (mvT hZ (own_w hw 67 rfl))) (mvT hZ (own_w hw 67 rfl)) (mvT hZ (own_w hw 66 rfl)) (by decide) (backOf (W := 2) (rm13 l Z a0 hw [] ob sa da pa (1 : Int32) fd fs fp (0 : Int32) 0 (FP.i2d (sv r0)) h14 n0 sz14 ⟨f15, f16, f17, f18, f19, f20, f21, f22, f23⟩ ⟨by decide, rfl, by decide⟩ (by decide) t0.2.1) hZ (own_w hw 68 rfl) (own_w hw 5 rfl) (by decide) (by decide)) q27a q27c (g := (mkF m 214 #[.val (.int cnt), .val (.int sb), .val (.int pb), .val (.int 1), .val (.ref ss), .val (.ref pa), .val (.ref dd), .val (.ref cc), .val (.ref ob), .unset, .unset] [(.int 0), (.ref ob), (.int 0), (.ref cc)])) rfl (by rw [hml]; rfl) (Steps.refl _) (argsL := [(.int 0)]) (rest := [(.int 0), (.ref cc)]) (lenOf pd_10 rfl) rfl (by show 2 * 0 + _ ≤ _; exact Nat.le_of_eq rfl) (hb hby at_214) (fun _ _ => ⟨rfl, e14, (by decide : 0 + 1 + 1 + 1 + 1 + 1 + 2 + 0 ≤ _), (by decide : 0 + 4 + 4 + 4 + 4 + 5 + 32 + 0 ≤ _)⟩)
  dsimp only [Pt.U, Pt.locs, Pt.cells, Pt.slots] at X27 l27 y27 z27 st27 hQ27
  subst l27 y27 z27
  refine own_by (fun _ K => st27.trans K) ?_
  obtain ⟨rfl, N27q, hh27⟩ := hQ27
  have N27 := Fr.app N14 N27q
  have f28 := f15
  rw [← hh27] at f28
  have f29 := f16
  rw [← hh27] at f29
  have f30 := f17
  rw [← hh27] at f30
  have f31 := f18
  rw [← hh27] at f31
  have f32 := f19
  rw [← hh27] at f32
  have f33 := f20
  rw [← hh27] at f33
  have f34 := f21
  rw [← hh27] at f34
  have f35 := f22
  rw [← hh27] at f35
  have f36 := f23
  rw [← hh27] at f36
  have f37 := f24
  rw [← hh27] at f37
  have f38 := A14
  rw [← hh27] at f38
  have f39 := f26
  rw [← hh27] at f39
  have sz27 : n0 ≤ T27.heap.size := by rw [hh27]; exact sz14
  show OwnG p e below s _ _ _ (T27.setTop (mkF m 217 _ [(.double (FP.i2d (sv r0))), (.int 0), (.ref cc)]))
  obtain ⟨T40, h40, X40, e40, W40, A40, st40⟩ := own_stD X27 hx hZ (rfl : T27.heap = T27.heap) f39 (j := (0 : Int32)) (i := 0) ⟨by decide, rfl, by decide⟩ (g := (mkF m 217 #[.val (.int cnt), .val (.int sb), .val (.int pb), .val (.int 1), .val (.ref ss), .val (.ref pa), .val (.ref dd), .val (.ref cc), .val (.ref ob), .unset, .unset] [(.double (FP.i2d (sv r0))), (.int 0), (.ref cc)])) rfl rfl (hb hby at_217)
  refine own_by (fun _ K => st40 _ K) ?_
  have f41 := Exa.wr W40 f28
  have f42 := Fld.other W40 f29 (Or.inl (Ne.symm Mm.2.2.2.2.2.2.1))
  have f43 := Fld.other W40 f30 (Or.inl (Ne.symm Mm.2.2.2.2.2.2.1))
  have f44 := Fld.other W40 f31 (Or.inl (Ne.symm Mm.2.2.2.2.2.2.1))
  have f45 := Fld.other W40 f32 (Or.inl (Ne.symm Mm.2.2.2.2.2.2.1))
  have f46 := Fld.other W40 f33 (Or.inl (Ne.symm Mm.2.2.2.2.2.2.1))
  have f47 := OwnA.other W40 f34 (Ne.symm Mm.2.2.2.2.2.2.2.2.1)
  have f48 := OwnA.other W40 f35 (Ne.symm Mm.2.2.2.2.2.2.2.1)
  have f49 := OwnA.other W40 f36 Mm.2.2.2.2.2.2.2.2.2.2.2.2.1
  have f50 := OwnA.other W40 f37 Mm.2.2.2.2.2.2.2.2.2.2.2.1
  have f51 := OwnA.other W40 f38 Mm.2.2.2.2.2.2.2.2.2.2.2.2.2
  have N40 := Fr.snoc X40 N27 gc
  have sz40 : n0 ≤ h40.size := by rw [W40.size]; exact sz27
  show OwnG p e below s _ _ _ (T40.setTop (mkF m 218 _ []))
  refine own_by (fun _ K => XS.iloadN X40.here hx rfl (hb hby at_218) rfl K) ?_
  show OwnG p e below s _ _ _ (T40.setTop (mkF m 219 _ [(.int 1)]))
  refine own_by (fun _ K => XS.iconst X40.here hx rfl (hb hby at_219) K) ?_
  show OwnG p e below s _ _ _ (T40.setTop (mkF m 220 _ [(.int 1), (.int 1)]))
  refine own_by (fun _ K => XS.icmpYes X40.here hx rfl (pc0 := 220) (pc' := 243) rfl (hb hby at_220) rfl (flt (by decide)).2.2.2 (by decide) (by decide) K) ?_
  show OwnG p e below s _ _ _ (T40.setTop (mkF m 243 _ []))
  refine own_by (fun _ K => XS.iloadN X40.here hx rfl (hb hby at_243) rfl K) ?_
  show OwnG p e below s _ _ _ (T40.setTop (mkF m 244 _ [(.int 1)]))
  refine own_by (fun _ K => XS.iconst X40.here hx rfl (hb hby at_244) K) ?_
  show OwnG p e below s _ _ _ (T40.setTop (mkF m 245 _ [(.int 2), (.int 1)]))
  refine own_by (fun _ K => XS.icmpYes X40.here hx rfl (pc0 := 245) (pc' := 268) rfl (hb hby at_245) rfl (flt (by decide)).2.2.2 (by decide) (by decide) K) ?_
  show OwnG p e below s _ _ _ (T40.setTop (mkF m 268 _ []))
  refine own_by (fun _ K => XS.iloadN X40.here hx rfl (hb hby at_268) rfl K) ?_
  show OwnG p e below s _ _ _ (T40.setTop (mkF m 269 _ [(.int 1)]))
  refine own_by (fun _ K => XS.iconst X40.here hx rfl (hb hby at_269) K) ?_
  show OwnG p e below s _ _ _ (T40.setTop (mkF m 270 _ [(.int 3), (.int 1)]))
  refine own_by (fun _ K => XS.icmpYes X40.here hx rfl (pc0 := 270) (pc' := 293) rfl (hb hby at_270) rfl (flt (by decide)).2.2.2 (by decide) (by decide) K) ?_
  show OwnG p e below s _ _ _ (T40.setTop (mkF m 293 _ []))
  exact own_e1 cnt sb pb 0 sv pl ob pa ss dd cc fp fss (ownSet (fun _ => (defaultValue .int)) 0 (.int r0)) (ownSet (fun _ => (defaultValue .double)) 0 (.double (FP.i2d (sv r0)))) r0 X40 hx hby hml hret hlk hown hnm hZ hw e40 N40 sz40 f49 f50 f51 A40 hP hss t0.2.2 own_sh own_sh hb0 hm
set_option maxRecDepth 65536 in
set_option maxHeartbeats 40000000 in
theorem own_n1 {p : Program} {l : Launch} {e : Env} {s : State} {m : MethodId} {args : Array Value} {below : List Frame} {meth : Method} {c : Code} {T0 : State} {locs : List Loc} {Z : State} {a0 : Array Value} {h0 : Heap} {n0 : Nat} (cnt sb pb : Int32) (sv pl : Int32 → Int32) (ob sa da pa ss dd cc : Addr) (fd fs fp fss : Nat → Value) (X0 : Stand p l e room_1 s m args below meth c T0 locs (0 + 1 + 1 + 1 + 1 + 1 + 2) (0 + 4 + 4 + 4 + 4 + 5 + 32)) (hx : p.tables.exec = Jvm.exec) (hby : c.code = code) (hml : c.maxLocals = 11) (hret : meth.sig.returnType = some .boolean) (hlk : meth.locks = false) (hown : s.vm.findClass "com/example/etsinta/etsinta/search/BestRankPinLaw" = some m.cls) (hnm : meth.name = "law") (hZ : Z.Warmed39 s.vm) (hw : ∀ d ∈ tables_1, d.before a0 Z = true) (e0 : T0.heap = h0) (N0 : Fr n0 locs) (Z0 : n0 ≤ h0.size) (Sb : own_S Z h0 ob sa da pa (0 : Int32) fd fs fp) (Nn : own_N n0 ob sa da pa) (Mm : own_M ob sa da pa ss dd cc) (hP : own_P pl fp) (hss : ∀ d, own_ok d → fss d.toNatClampNeg = .double (FP.i2d (sv d))) (As : OwnA Z h0 ss .double 4 fss) (Ad : OwnA Z h0 dd .int 4 (fun _ => (defaultValue .int))) (Ac : OwnA Z h0 cc .double 4 (fun _ => (defaultValue .double))) (gd : n0 ≤ dd) (gc : n0 ≤ cc) :
    OwnG p e below s (fun v h L => v = some (.int 1) ∧ Fr n0 L) room_1.cells room_1.slots (T0.setTop (mkF m 119 #[.val (.int cnt), .val (.int sb), .val (.int pb), .val (.int 1), .val (.ref ss), .val (.ref pa), .val (.ref dd), .val (.ref cc), .val (.ref ob), .unset, .unset] [])) := by
  show OwnG p e below s _ _ _ (T0.setTop (mkF m 119 #[.val (.int cnt), .val (.int sb), .val (.int pb), .val (.int 1), .val (.ref ss), .val (.ref pa), .val (.ref dd), .val (.ref cc), .val (.ref ob), .unset, .unset] []))
  refine own_by (fun _ K => XS.iloadN X0.here hx rfl (hb hby at_119) rfl K) ?_
  show OwnG p e below s _ _ _ (T0.setTop (mkF m 120 _ [(.int 1)]))
  refine own_by (fun _ K => XS.ifNo X0.here hx rfl (hb hby at_120) rfl ((if0 _ _).trans (tlt (by decide)).2.2.2) K) ?_
  show OwnG p e below s _ _ _ (T0.setTop (mkF m 123 _ []))
  refine own_by (fun _ K => XS.aload X0.here hx rfl (hb hby at_123) rfl rfl K) ?_
  show OwnG p e below s _ _ _ (T0.setTop (mkF m 125 _ [(.ref ob)]))
  refine own_by (fun _ K => XS.iconst X0.here hx rfl (hb hby at_125) K) ?_
  show OwnG p e below s _ _ _ (T0.setTop (mkF m 126 _ [(.int 0), (.ref ob)]))
  refine own_by (fun _ K => XS.aload X0.here hx rfl (hb hby at_126) rfl rfl K) ?_
  show OwnG p e below s _ _ _ (T0.setTop (mkF m 128 _ [(.ref ss), (.int 0), (.ref ob)]))
  refine own_by (fun _ K => XS.iconst X0.here hx rfl (hb hby at_128) K) ?_
  show OwnG p e below s _ _ _ (T0.setTop (mkF m 129 _ [(.int 0), (.ref ss), (.int 0), (.ref ob)]))
  refine own_by (fun _ K => own_ldD X0 hx hZ e0 As (j := (0 : Int32)) (i := 0) ⟨by decide, rfl, by decide⟩ (v := (.double (FP.i2d (sv (0 : Int32))))) (hss (0 : Int32) (Or.inl rfl)) (g := (mkF m 129 #[.val (.int cnt), .val (.int sb), .val (.int pb), .val (.int 1), .val (.ref ss), .val (.ref pa), .val (.ref dd), .val (.ref cc), .val (.ref ob), .unset, .unset] [(.int 0), (.ref ss), (.int 0), (.ref ob)])) rfl rfl (hb hby at_129) _ K) ?_
  show OwnG p e below s _ _ _ (T0.setTop (mkF m 130 _ [(.double (FP.i2d (sv (0 : Int32)))), (.int 0), (.ref ob)]))
  obtain ⟨cq1, kq1, q1a, q1b, q1c⟩ := isOf hZ e0 Sb.1
  obtain ⟨_, _, ⟨T1, L1, k1, n1⟩, -, X1, ⟨Lc1, hQ1, l1, y1, z1⟩, st1⟩ := X0.virtualBack hx (y := (⟨"com/example/etsinta/etsinta/search/Best", "offer", "(ID)V"⟩ : MethodName)) (z := (⟨"com/example/etsinta/etsinta/search/Best", "offer", "(ID)V"⟩ : MethodName)) hown (mvT hZ (own_w hw 42 rfl)) (mvT hZ (own_w hw 43 rfl)) (notFace_of_selects (args := #[]) (mvT hZ (own_w hw 45 rfl))) (mvT hZ (own_w hw 45 rfl)) (mvT hZ (own_w hw 44 rfl)) (by decide) (backOf (W := 0) (rm8o0 l Z a0 hw [] sv pl ob sa da pa fd fs fp (0 : Int32) h0 n0 Z0 ⟨Sb.1, Sb.2.1, Sb.2.2.1, Sb.2.2.2.1, Sb.2.2.2.2.1, Sb.2.2.2.2.2.1, Sb.2.2.2.2.2.2.1, Sb.2.2.2.2.2.2.2.1, Sb.2.2.2.2.2.2.2.2⟩ Nn hP  (Or.inl rfl)) hZ (own_w hw 46 rfl) (own_w hw 5 rfl) (by decide) (by decide)) q1a q1c (g := (mkF m 130 #[.val (.int cnt), .val (.int sb), .val (.int pb), .val (.int 1), .val (.ref ss), .val (.ref pa), .val (.ref dd), .val (.ref cc), .val (.ref ob), .unset, .unset] [(.double (FP.i2d (sv (0 : Int32)))), (.int 0), (.ref ob)])) rfl (by rw [hml]; rfl) (Steps.refl _) (argsL := [(.int 0), (.double (FP.i2d (sv (0 : Int32))))]) (rest := []) (lenOf pd_2 rfl) rfl (by show 2 * 0 + _ ≤ _; exact Nat.le_of_eq rfl) (hb hby at_130) (fun _ _ => ⟨rfl, e0, (by decide : 0 + 1 + 1 + 1 + 1 + 1 + 2 + 0 ≤ _), (by decide : 0 + 4 + 4 + 4 + 4 + 5 + 32 + 0 ≤ _)⟩)
  dsimp only [Pt.U, Pt.locs, Pt.cells, Pt.slots] at X1 l1 y1 z1 st1 hQ1
  subst l1 y1 z1
  refine own_by (fun _ K => st1.trans K) ?_
  obtain ⟨rfl, N1q, K1, fd1, fs1, r1_0, S1, t1_0, hU1⟩ := hQ1
  have N1 := Fr.app N0 N1q
  have sz1 : n0 ≤ T1.heap.size := Nat.le_trans Z0 K1.1
  have f2 := Exa.keep Sb.1 K1
  have f3 := OwnA.keep As K1 (ninS Mm.1 (ninS Mm.2.1 (ninS Mm.2.2.1 nin0)))
  have f4 := OwnA.keep Ad K1 (ninS Mm.2.2.2.1 (ninS Mm.2.2.2.2.1 (ninS Mm.2.2.2.2.2.1 nin0)))
  have f5 := OwnA.keep Ac K1 (ninS Mm.2.2.2.2.2.2.1 (ninS Mm.2.2.2.2.2.2.2.1 (ninS Mm.2.2.2.2.2.2.2.2.1 nin0)))
  show OwnG p e below s _ _ _ (T1.setTop (mkF m 133 _ []))
  refine own_by (fun _ K => XS.iloadN X1.here hx rfl (hb hby at_133) rfl K) ?_
  show OwnG p e below s _ _ _ (T1.setTop (mkF m 134 _ [(.int 1)]))
  refine own_by (fun _ K => XS.iconst X1.here hx rfl (hb hby at_134) K) ?_
  show OwnG p e below s _ _ _ (T1.setTop (mkF m 135 _ [(.int 1), (.int 1)]))
  refine own_by (fun _ K => XS.icmpYes X1.here hx rfl (pc0 := 135) (pc' := 148) rfl (hb hby at_135) rfl (flt (by decide)).2.2.2 (by decide) (by decide) K) ?_
  show OwnG p e below s _ _ _ (T1.setTop (mkF m 148 _ []))
  refine own_by (fun _ K => XS.iloadN X1.here hx rfl (hb hby at_148) rfl K) ?_
  show OwnG p e below s _ _ _ (T1.setTop (mkF m 149 _ [(.int 1)]))
  refine own_by (fun _ K => XS.iconst X1.here hx rfl (hb hby at_149) K) ?_
  show OwnG p e below s _ _ _ (T1.setTop (mkF m 150 _ [(.int 2), (.int 1)]))
  refine own_by (fun _ K => XS.icmpYes X1.here hx rfl (pc0 := 150) (pc' := 163) rfl (hb hby at_150) rfl (flt (by decide)).2.2.2 (by decide) (by decide) K) ?_
  show OwnG p e below s _ _ _ (T1.setTop (mkF m 163 _ []))
  refine own_by (fun _ K => XS.iloadN X1.here hx rfl (hb hby at_163) rfl K) ?_
  show OwnG p e below s _ _ _ (T1.setTop (mkF m 164 _ [(.int 1)]))
  refine own_by (fun _ K => XS.iconst X1.here hx rfl (hb hby at_164) K) ?_
  show OwnG p e below s _ _ _ (T1.setTop (mkF m 165 _ [(.int 3), (.int 1)]))
  refine own_by (fun _ K => XS.icmpYes X1.here hx rfl (pc0 := 165) (pc' := 178) rfl (hb hby at_165) rfl (flt (by decide)).2.2.2 (by decide) (by decide) K) ?_
  show OwnG p e below s _ _ _ (T1.setTop (mkF m 178 _ []))
  refine own_by (fun _ K => XS.aload X1.here hx rfl (hb hby at_178) rfl rfl K) ?_
  show OwnG p e below s _ _ _ (T1.setTop (mkF m 180 _ [(.ref ob)]))
  obtain ⟨cq6, kq6, q6a, q6b, q6c⟩ := isOf hZ (rfl : T1.heap = T1.heap) S1.1
  obtain ⟨_, _, ⟨T6, L6, k6, n6⟩, -, X6, ⟨Lc6, hQ6, l6, y6, z6⟩, st6⟩ := X1.virtualBack hx (y := (⟨"com/example/etsinta/etsinta/search/Best", "rank", "()V"⟩ : MethodName)) (z := (⟨"com/example/etsinta/etsinta/search/Best", "rank", "()V"⟩ : MethodName)) hown (mvT hZ (own_w hw 20 rfl)) (mvT hZ (own_w hw 21 rfl)) (notFace_of_selects (args := #[]) (mvT hZ (own_w hw 23 rfl))) (mvT hZ (own_w hw 23 rfl)) (mvT hZ (own_w hw 22 rfl)) (by decide) (backOf (W := 0) (rm3k1 l Z a0 hw [] sv pl ob sa da pa fd1 fs1 fp r1_0 T1.heap n0 sz1 ⟨S1.1, S1.2.1, S1.2.2.1, S1.2.2.2.1, S1.2.2.2.2.1, S1.2.2.2.2.2.1, S1.2.2.2.2.2.2.1, S1.2.2.2.2.2.2.2.1, S1.2.2.2.2.2.2.2.2⟩ Nn hP ⟨t1_0.1, t1_0.2.1, t1_0.2.2⟩) hZ (own_w hw 24 rfl) (own_w hw 5 rfl) (by decide) (by decide)) q6a q6c (g := (mkF m 180 #[.val (.int cnt), .val (.int sb), .val (.int pb), .val (.int 1), .val (.ref ss), .val (.ref pa), .val (.ref dd), .val (.ref cc), .val (.ref ob), .unset, .unset] [(.ref ob)])) rfl (by rw [hml]; rfl) (Steps.refl _) (argsL := []) (rest := []) (lenOf pd_6 rfl) rfl (by show 2 * 0 + _ ≤ _; exact Nat.le_of_eq rfl) (hb hby at_180) (fun _ _ => ⟨rfl, (rfl : T1.heap = T1.heap), (by decide : 0 + 1 + 1 + 1 + 1 + 1 + 2 + 0 ≤ _), (by decide : 0 + 4 + 4 + 4 + 4 + 5 + 32 + 0 ≤ _)⟩)
  dsimp only [Pt.U, Pt.locs, Pt.cells, Pt.slots] at X6 l6 y6 z6 st6 hQ6
  subst l6 y6 z6
  refine own_by (fun _ K => st6.trans K) ?_
  obtain ⟨rfl, N6q, K6, fd6, fs6, r6_0, S6, t6_0, hR6⟩ := hQ6
  have N6 := Fr.app N1 N6q
  have sz6 : n0 ≤ T6.heap.size := Nat.le_trans sz1 K6.1
  have f7 := Exa.keep S1.1 K6
  have f8 := OwnA.keep f3 K6 (ninS Mm.1 (ninS Mm.2.1 (ninS Mm.2.2.1 nin0)))
  have f9 := OwnA.keep f4 K6 (ninS Mm.2.2.2.1 (ninS Mm.2.2.2.2.1 (ninS Mm.2.2.2.2.2.1 nin0)))
  have f10 := OwnA.keep f5 K6 (ninS Mm.2.2.2.2.2.2.1 (ninS Mm.2.2.2.2.2.2.2.1 (ninS Mm.2.2.2.2.2.2.2.2.1 nin0)))
  show OwnG p e below s _ _ _ (T6.setTop (mkF m 183 _ []))
  refine own_by (fun _ K => XS.aload X6.here hx rfl (hb hby at_183) rfl rfl K) ?_
  show OwnG p e below s _ _ _ (T6.setTop (mkF m 185 _ [(.ref ob)]))
  obtain ⟨cq11, kq11, q11a, q11b, q11c⟩ := isOf hZ (rfl : T6.heap = T6.heap) S6.1
  obtain ⟨_, _, ⟨T11, L11, k11, n11⟩, -, X11, ⟨Lc11, hQ11, l11, y11, z11⟩, st11⟩ := X6.virtualBack hx (y := (⟨"com/example/etsinta/etsinta/search/Best", "size", "()I"⟩ : MethodName)) (z := (⟨"com/example/etsinta/etsinta/search/Best", "size", "()I"⟩ : MethodName)) hown (mvT hZ (own_w hw 27 rfl)) (mvT hZ (own_w hw 28 rfl)) (notFace_of_selects (args := #[]) (mvT hZ (own_w hw 30 rfl))) (mvT hZ (own_w hw 30 rfl)) (mvT hZ (own_w hw 29 rfl)) (by decide) (backOf (W := 0) (rm4 l Z a0 hw [] ob sa da pa (1 : Int32) fd6 fs6 fp T6.heap n0 sz6 ⟨S6.1, S6.2.1, S6.2.2.1, S6.2.2.2.1, S6.2.2.2.2.1, S6.2.2.2.2.2.1, S6.2.2.2.2.2.2.1, S6.2.2.2.2.2.2.2.1, S6.2.2.2.2.2.2.2.2⟩) hZ (own_w hw 31 rfl) (own_w hw 5 rfl) (by decide) (by decide)) q11a q11c (g := (mkF m 185 #[.val (.int cnt), .val (.int sb), .val (.int pb), .val (.int 1), .val (.ref ss), .val (.ref pa), .val (.ref dd), .val (.ref cc), .val (.ref ob), .unset, .unset] [(.ref ob)])) rfl (by rw [hml]; rfl) (Steps.refl _) (argsL := []) (rest := []) (lenOf pd_8 rfl) rfl (by show 2 * 0 + _ ≤ _; exact Nat.le_of_eq rfl) (hb hby at_185) (fun _ _ => ⟨rfl, (rfl : T6.heap = T6.heap), (by decide : 0 + 1 + 1 + 1 + 1 + 1 + 2 + 0 ≤ _), (by decide : 0 + 4 + 4 + 4 + 4 + 5 + 32 + 0 ≤ _)⟩)
  dsimp only [Pt.U, Pt.locs, Pt.cells, Pt.slots] at X11 l11 y11 z11 st11 hQ11
  subst l11 y11 z11
  refine own_by (fun _ K => st11.trans K) ?_
  obtain ⟨rfl, N11q, hh11⟩ := hQ11
  have N11 := Fr.app N6 N11q
  have f12 := S6.1
  rw [← hh11] at f12
  have f13 := f8
  rw [← hh11] at f13
  have f14 := f9
  rw [← hh11] at f14
  have f15 := f10
  rw [← hh11] at f15
  have f16 := S6.2.1
  rw [← hh11] at f16
  have f17 := S6.2.2.1
  rw [← hh11] at f17
  have f18 := S6.2.2.2.1
  rw [← hh11] at f18
  have f19 := S6.2.2.2.2.1
  rw [← hh11] at f19
  have f20 := S6.2.2.2.2.2.1
  rw [← hh11] at f20
  have f21 := S6.2.2.2.2.2.2.1
  rw [← hh11] at f21
  have f22 := S6.2.2.2.2.2.2.2.1
  rw [← hh11] at f22
  have f23 := S6.2.2.2.2.2.2.2.2
  rw [← hh11] at f23
  have sz11 : n0 ≤ T11.heap.size := by rw [hh11]; exact sz6
  show OwnG p e below s _ _ _ (T11.setTop (mkF m 188 _ [(.int 1)]))
  refine own_by (fun _ K => XS.iloadN X11.here hx rfl (hb hby at_188) rfl K) ?_
  show OwnG p e below s _ _ _ (T11.setTop (mkF m 189 _ [(.int 1), (.int 1)]))
  refine own_by (fun _ K => XS.icmpYes X11.here hx rfl (pc0 := 189) (pc' := 194) rfl (hb hby at_189) rfl (teq (by decide)).1 (by decide) (by decide) K) ?_
  show OwnG p e below s _ _ _ (T11.setTop (mkF m 194 _ []))
  obtain ⟨hb0, hm⟩ := own_g1 (hR6.trans hU1)
  exact own_r1 cnt sb pb sv pl ob sa da pa ss dd cc fd6 fs6 fp fss r6_0 X11 hx hby hml hret hlk hown hnm hZ hw (rfl : T11.heap = T11.heap) N11 sz11 ⟨f12, f16, f17, f18, f19, f20, f21, f22, f23⟩ Nn Mm hP hss f13 f14 f15 gd gc ⟨t6_0.1, t6_0.2.1, t6_0.2.2⟩ hb0 hm
set_option maxRecDepth 65536 in
set_option maxHeartbeats 40000000 in
theorem own_o2 {p : Program} {l : Launch} {e : Env} {s : State} {m : MethodId} {args : Array Value} {below : List Frame} {meth : Method} {c : Code} {T0 : State} {locs : List Loc} {Z : State} {a0 : Array Value} {h0 : Heap} {n0 : Nat} (cnt sb pb mk : Int32) (sv pl : Int32 → Int32) (ob pa ss dd cc : Addr) (fp fss fdd fcc : Nat → Value) (r0 r1 : Int32) (X0 : Stand p l e room_1 s m args below meth c T0 locs (0 + 1 + 1 + 1 + 1 + 1 + 2) (0 + 4 + 4 + 4 + 4 + 5 + 32)) (hx : p.tables.exec = Jvm.exec) (hby : c.code = code) (hml : c.maxLocals = 11) (hret : meth.sig.returnType = some .boolean) (hlk : meth.locks = false) (hown : s.vm.findClass "com/example/etsinta/etsinta/search/BestRankPinLaw" = some m.cls) (hnm : meth.name = "law") (hZ : Z.Warmed39 s.vm) (hw : ∀ d ∈ tables_1, d.before a0 Z = true) (e0 : T0.heap = h0) (N0 : Fr n0 locs) (Z0 : n0 ≤ h0.size) (Ap : OwnA Z h0 pa .int 4 fp) (As : OwnA Z h0 ss .double 4 fss) (Ad : OwnA Z h0 dd .int 4 fdd) (Ac : OwnA Z h0 cc .double 4 fcc) (hP : own_P pl fp) (hss : ∀ d, own_ok d → fss d.toNatClampNeg = .double (FP.i2d (sv d))) (k_r0 : own_ok r0) (k_r1 : own_ok r1) (v1_0 : fdd 0 = .int r0) (v1_1 : fdd 1 = .int r1) (v2_0 : fcc 0 = .double (FP.i2d (sv r0))) (v2_1 : fcc 1 = .double (FP.i2d (sv r1))) (hb0 : ¬ r0 < 0 ∧ r0 < (2 : Int32)) (hb1 : ¬ r1 < 0 ∧ r1 < (2 : Int32)) (ho0 : ¬ own_K sv pl r0 < own_K sv pl r1) (hm : ((((1 : Int32) <<< (r0 &&& 31)) ||| ((1 : Int32) <<< (r1 &&& 31))) ||| (0 : Int32)) ||| (0 : Int32) = ((1 : Int32) <<< ((2 : Int32) &&& 31)) - (1 : Int32)) :
    OwnG p e below s (fun v h L => v = some (.int 1) ∧ Fr n0 L) room_1.cells room_1.slots (T0.setTop (mkF m 408 #[.val (.int cnt), .val (.int sb), .val (.int pb), .val (.int 2), .val (.ref ss), .val (.ref pa), .val (.ref dd), .val (.ref cc), .val (.ref ob), .val (.int 1), .val (.int mk)] [])) := by
  show OwnG p e below s _ _ _ (T0.setTop (mkF m 408 #[.val (.int cnt), .val (.int sb), .val (.int pb), .val (.int 2), .val (.ref ss), .val (.ref pa), .val (.ref dd), .val (.ref cc), .val (.ref ob), .val (.int 1), .val (.int mk)] []))
  refine own_by (fun _ K => XS.aload X0.here hx rfl (hb hby at_408) rfl rfl K) ?_
  show OwnG p e below s _ _ _ (T0.setTop (mkF m 410 _ [(.ref pa)]))
  refine own_by (fun _ K => XS.aload X0.here hx rfl (hb hby at_410) rfl rfl K) ?_
  show OwnG p e below s _ _ _ (T0.setTop (mkF m 412 _ [(.ref dd), (.ref pa)]))
  refine own_by (fun _ K => XS.aload X0.here hx rfl (hb hby at_412) rfl rfl K) ?_
  show OwnG p e below s _ _ _ (T0.setTop (mkF m 414 _ [(.ref cc), (.ref dd), (.ref pa)]))
  refine own_by (fun _ K => XS.iloadN X0.here hx rfl (hb hby at_414) rfl K) ?_
  show OwnG p e below s _ _ _ (T0.setTop (mkF m 415 _ [(.int 2), (.ref cc), (.ref dd), (.ref pa)]))
  refine own_by (fun _ K => XS.iconst X0.here hx rfl (hb hby at_415) K) ?_
  show OwnG p e below s _ _ _ (T0.setTop (mkF m 416 _ [(.int 0), (.int 2), (.ref cc), (.ref dd), (.ref pa)]))
  obtain ⟨_, _, ⟨T1, L1, k1, n1⟩, -, X1, ⟨Lc1, hQ1, l1, y1, z1⟩, st1⟩ := Jvm.LawKit.callS X0 hx (y := (⟨"com/example/etsinta/etsinta/search/BestRankPinLaw", "ordered", "([I[I[DII)Z"⟩ : MethodName)) hown (mvT hZ (own_w hw 39 rfl)) (mvT hZ (own_w hw 40 rfl)) (mvT hZ (own_w hw 34 rfl)) (mvT hZ (own_w hw 41 rfl)) (by decide) (backOf (W := 0) (rm7p l Z a0 hw [] sv pl pa dd cc (2 : Int32) (0 : Int32) r0 r1 0 fdd fcc fp h0 n0 Z0 Ap Ad Ac hP (by decide) ⟨by decide, rfl, by decide⟩ ⟨by decide, by decide, by decide⟩ k_r0 k_r1 v1_0 v2_0 v1_1 v2_1 ho0) hZ (own_w hw 41 rfl) (own_w hw 34 rfl) (by decide) (by decide)) (g := (mkF m 416 #[.val (.int cnt), .val (.int sb), .val (.int pb), .val (.int 2), .val (.ref ss), .val (.ref pa), .val (.ref dd), .val (.ref cc), .val (.ref ob), .val (.int 1), .val (.int mk)] [(.int 0), (.int 2), (.ref cc), (.ref dd), (.ref pa)])) rfl (by rw [hml]; rfl) (argsL := [(.ref pa), (.ref dd), (.ref cc), (.int 2), (.int 0)]) (rest := []) (lenOf pd_13 rfl) rfl (by show 2 * 0 + _ ≤ _; exact Nat.le_of_eq rfl) (hb hby at_416) (fun _ _ => ⟨rfl, e0, (by decide : 0 + 1 + 1 + 1 + 1 + 1 + 2 + 0 ≤ _), (by decide : 0 + 4 + 4 + 4 + 4 + 5 + 32 + 0 ≤ _)⟩)
  dsimp only [Pt.U, Pt.locs, Pt.cells, Pt.slots] at X1 l1 y1 z1 st1 hQ1
  subst l1 y1 z1
  refine own_by (fun _ K => st1 _ K) ?_
  obtain ⟨rfl, N1q, hh1⟩ := hQ1
  have N1 := Fr.app N0 N1q
  have f2 := Ap
  rw [← hh1] at f2
  have f3 := As
  rw [← hh1] at f3
  have f4 := Ad
  rw [← hh1] at f4
  have f5 := Ac
  rw [← hh1] at f5
  have sz1 : n0 ≤ T1.heap.size := by rw [hh1]; exact Z0
  show OwnG p e below s _ _ _ (T1.setTop (mkF m 419 _ [(.int 1)]))
  refine own_by (fun _ K => XS.ifNo X1.here hx rfl (hb hby at_419) rfl ((if0 _ _).trans (feq (by decide)).1) K) ?_
  show OwnG p e below s _ _ _ (T1.setTop (mkF m 422 _ []))
  refine own_by (fun _ K => XS.aload X1.here hx rfl (hb hby at_422) rfl rfl K) ?_
  show OwnG p e below s _ _ _ (T1.setTop (mkF m 424 _ [(.ref pa)]))
  refine own_by (fun _ K => XS.aload X1.here hx rfl (hb hby at_424) rfl rfl K) ?_
  show OwnG p e below s _ _ _ (T1.setTop (mkF m 426 _ [(.ref dd), (.ref pa)]))
  refine own_by (fun _ K => XS.aload X1.here hx rfl (hb hby at_426) rfl rfl K) ?_
  show OwnG p e below s _ _ _ (T1.setTop (mkF m 428 _ [(.ref cc), (.ref dd), (.ref pa)]))
  refine own_by (fun _ K => XS.iloadN X1.here hx rfl (hb hby at_428) rfl K) ?_
  show OwnG p e below s _ _ _ (T1.setTop (mkF m 429 _ [(.int 2), (.ref cc), (.ref dd), (.ref pa)]))
  refine own_by (fun _ K => XS.iconst X1.here hx rfl (hb hby at_429) K) ?_
  show OwnG p e below s _ _ _ (T1.setTop (mkF m 430 _ [(.int 1), (.int 2), (.ref cc), (.ref dd), (.ref pa)]))
  obtain ⟨_, _, ⟨T6, L6, k6, n6⟩, -, X6, ⟨Lc6, hQ6, l6, y6, z6⟩, st6⟩ := Jvm.LawKit.callS X1 hx (y := (⟨"com/example/etsinta/etsinta/search/BestRankPinLaw", "ordered", "([I[I[DII)Z"⟩ : MethodName)) hown (mvT hZ (own_w hw 39 rfl)) (mvT hZ (own_w hw 40 rfl)) (mvT hZ (own_w hw 34 rfl)) (mvT hZ (own_w hw 41 rfl)) (by decide) (backOf (W := 0) (rm7z l Z a0 hw [] pa dd cc (2 : Int32) (1 : Int32) T1.heap n0 sz1 (by decide)) hZ (own_w hw 41 rfl) (own_w hw 34 rfl) (by decide) (by decide)) (g := (mkF m 430 #[.val (.int cnt), .val (.int sb), .val (.int pb), .val (.int 2), .val (.ref ss), .val (.ref pa), .val (.ref dd), .val (.ref cc), .val (.ref ob), .val (.int 1), .val (.int mk)] [(.int 1), (.int 2), (.ref cc), (.ref dd), (.ref pa)])) rfl (by rw [hml]; rfl) (argsL := [(.ref pa), (.ref dd), (.ref cc), (.int 2), (.int 1)]) (rest := []) (lenOf pd_13 rfl) rfl (by show 2 * 0 + _ ≤ _; exact Nat.le_of_eq rfl) (hb hby at_430) (fun _ _ => ⟨rfl, (rfl : T1.heap = T1.heap), (by decide : 0 + 1 + 1 + 1 + 1 + 1 + 2 + 0 ≤ _), (by decide : 0 + 4 + 4 + 4 + 4 + 5 + 32 + 0 ≤ _)⟩)
  dsimp only [Pt.U, Pt.locs, Pt.cells, Pt.slots] at X6 l6 y6 z6 st6 hQ6
  subst l6 y6 z6
  refine own_by (fun _ K => st6 _ K) ?_
  obtain ⟨rfl, N6q, hh6⟩ := hQ6
  have N6 := Fr.app N1 N6q
  have f7 := f2
  rw [← hh6] at f7
  have f8 := f3
  rw [← hh6] at f8
  have f9 := f4
  rw [← hh6] at f9
  have f10 := f5
  rw [← hh6] at f10
  have sz6 : n0 ≤ T6.heap.size := by rw [hh6]; exact sz1
  show OwnG p e below s _ _ _ (T6.setTop (mkF m 433 _ [(.int 1)]))
  refine own_by (fun _ K => XS.ifNo X6.here hx rfl (hb hby at_433) rfl ((if0 _ _).trans (feq (by decide)).1) K) ?_
  show OwnG p e below s _ _ _ (T6.setTop (mkF m 436 _ []))
  refine own_by (fun _ K => XS.aload X6.here hx rfl (hb hby at_436) rfl rfl K) ?_
  show OwnG p e below s _ _ _ (T6.setTop (mkF m 438 _ [(.ref pa)]))
  refine own_by (fun _ K => XS.aload X6.here hx rfl (hb hby at_438) rfl rfl K) ?_
  show OwnG p e below s _ _ _ (T6.setTop (mkF m 440 _ [(.ref dd), (.ref pa)]))
  refine own_by (fun _ K => XS.aload X6.here hx rfl (hb hby at_440) rfl rfl K) ?_
  show OwnG p e below s _ _ _ (T6.setTop (mkF m 442 _ [(.ref cc), (.ref dd), (.ref pa)]))
  refine own_by (fun _ K => XS.iloadN X6.here hx rfl (hb hby at_442) rfl K) ?_
  show OwnG p e below s _ _ _ (T6.setTop (mkF m 443 _ [(.int 2), (.ref cc), (.ref dd), (.ref pa)]))
  refine own_by (fun _ K => XS.iconst X6.here hx rfl (hb hby at_443) K) ?_
  show OwnG p e below s _ _ _ (T6.setTop (mkF m 444 _ [(.int 2), (.int 2), (.ref cc), (.ref dd), (.ref pa)]))
  obtain ⟨_, _, ⟨T11, L11, k11, n11⟩, -, X11, ⟨Lc11, hQ11, l11, y11, z11⟩, st11⟩ := Jvm.LawKit.callS X6 hx (y := (⟨"com/example/etsinta/etsinta/search/BestRankPinLaw", "ordered", "([I[I[DII)Z"⟩ : MethodName)) hown (mvT hZ (own_w hw 39 rfl)) (mvT hZ (own_w hw 40 rfl)) (mvT hZ (own_w hw 34 rfl)) (mvT hZ (own_w hw 41 rfl)) (by decide) (backOf (W := 0) (rm7z l Z a0 hw [] pa dd cc (2 : Int32) (2 : Int32) T6.heap n0 sz6 (by decide)) hZ (own_w hw 41 rfl) (own_w hw 34 rfl) (by decide) (by decide)) (g := (mkF m 444 #[.val (.int cnt), .val (.int sb), .val (.int pb), .val (.int 2), .val (.ref ss), .val (.ref pa), .val (.ref dd), .val (.ref cc), .val (.ref ob), .val (.int 1), .val (.int mk)] [(.int 2), (.int 2), (.ref cc), (.ref dd), (.ref pa)])) rfl (by rw [hml]; rfl) (argsL := [(.ref pa), (.ref dd), (.ref cc), (.int 2), (.int 2)]) (rest := []) (lenOf pd_13 rfl) rfl (by show 2 * 0 + _ ≤ _; exact Nat.le_of_eq rfl) (hb hby at_444) (fun _ _ => ⟨rfl, (rfl : T6.heap = T6.heap), (by decide : 0 + 1 + 1 + 1 + 1 + 1 + 2 + 0 ≤ _), (by decide : 0 + 4 + 4 + 4 + 4 + 5 + 32 + 0 ≤ _)⟩)
  dsimp only [Pt.U, Pt.locs, Pt.cells, Pt.slots] at X11 l11 y11 z11 st11 hQ11
  subst l11 y11 z11
  refine own_by (fun _ K => st11 _ K) ?_
  obtain ⟨rfl, N11q, hh11⟩ := hQ11
  have N11 := Fr.app N6 N11q
  have f12 := f7
  rw [← hh11] at f12
  have f13 := f8
  rw [← hh11] at f13
  have f14 := f9
  rw [← hh11] at f14
  have f15 := f10
  rw [← hh11] at f15
  have sz11 : n0 ≤ T11.heap.size := by rw [hh11]; exact sz6
  show OwnG p e below s _ _ _ (T11.setTop (mkF m 447 _ [(.int 1)]))
  refine own_by (fun _ K => XS.ifNo X11.here hx rfl (hb hby at_447) rfl ((if0 _ _).trans (feq (by decide)).1) K) ?_
  show OwnG p e below s _ _ _ (T11.setTop (mkF m 450 _ []))
  refine own_by (fun _ K => XS.iconst X11.here hx rfl (hb hby at_450) K) ?_
  show OwnG p e below s _ _ _ (T11.setTop (mkF m 451 _ [(.int 1)]))
  refine own_by (fun _ K => XS.goto X11.here hx rfl (pc0 := 451) (pc' := 455) rfl (hb hby at_451) (by decide) (by decide) K) ?_
  show OwnG p e below s _ _ _ (T11.setTop (mkF m 455 _ [(.int 1)]))
  exact own_outN X11 hx hret (by simp) hlk (hb hby at_455) rfl (⟨rfl, N11⟩) (by decide) (by decide)
set_option maxRecDepth 65536 in
set_option maxHeartbeats 40000000 in
theorem own_e2 {p : Program} {l : Launch} {e : Env} {s : State} {m : MethodId} {args : Array Value} {below : List Frame} {meth : Method} {c : Code} {T0 : State} {locs : List Loc} {Z : State} {a0 : Array Value} {h0 : Heap} {n0 : Nat} (cnt sb pb mk : Int32) (sv pl : Int32 → Int32) (ob pa ss dd cc : Addr) (fp fss fdd fcc : Nat → Value) (r0 r1 : Int32) (X0 : Stand p l e room_1 s m args below meth c T0 locs (0 + 1 + 1 + 1 + 1 + 1 + 2) (0 + 4 + 4 + 4 + 4 + 5 + 32)) (hx : p.tables.exec = Jvm.exec) (hby : c.code = code) (hml : c.maxLocals = 11) (hret : meth.sig.returnType = some .boolean) (hlk : meth.locks = false) (hown : s.vm.findClass "com/example/etsinta/etsinta/search/BestRankPinLaw" = some m.cls) (hnm : meth.name = "law") (hZ : Z.Warmed39 s.vm) (hw : ∀ d ∈ tables_1, d.before a0 Z = true) (e0 : T0.heap = h0) (N0 : Fr n0 locs) (Z0 : n0 ≤ h0.size) (Ap : OwnA Z h0 pa .int 4 fp) (As : OwnA Z h0 ss .double 4 fss) (Ad : OwnA Z h0 dd .int 4 fdd) (Ac : OwnA Z h0 cc .double 4 fcc) (hP : own_P pl fp) (hss : ∀ d, own_ok d → fss d.toNatClampNeg = .double (FP.i2d (sv d))) (k_r0 : own_ok r0) (k_r1 : own_ok r1) (v1_0 : fdd 0 = .int r0) (v1_1 : fdd 1 = .int r1) (v2_0 : fcc 0 = .double (FP.i2d (sv r0))) (v2_1 : fcc 1 = .double (FP.i2d (sv r1))) (hb0 : ¬ r0 < 0 ∧ r0 < (2 : Int32)) (hb1 : ¬ r1 < 0 ∧ r1 < (2 : Int32)) (ho0 : ¬ own_K sv pl r0 < own_K sv pl r1) (hm : ((((1 : Int32) <<< (r0 &&& 31)) ||| ((1 : Int32) <<< (r1 &&& 31))) ||| (0 : Int32)) ||| (0 : Int32) = ((1 : Int32) <<< ((2 : Int32) &&& 31)) - (1 : Int32)) :
    OwnG p e below s (fun v h L => v = some (.int 1) ∧ Fr n0 L) room_1.cells room_1.slots (T0.setTop (mkF m 293 #[.val (.int cnt), .val (.int sb), .val (.int pb), .val (.int 2), .val (.ref ss), .val (.ref pa), .val (.ref dd), .val (.ref cc), .val (.ref ob), .unset, .unset] [])) := by
  show OwnG p e below s _ _ _ (T0.setTop (mkF m 293 #[.val (.int cnt), .val (.int sb), .val (.int pb), .val (.int 2), .val (.ref ss), .val (.ref pa), .val (.ref dd), .val (.ref cc), .val (.ref ob), .unset, .unset] []))
  refine own_by (fun _ K => XS.aload X0.here hx rfl (hb hby at_293) rfl rfl K) ?_
  show OwnG p e below s _ _ _ (T0.setTop (mkF m 295 _ [(.ref dd)]))
  refine own_by (fun _ K => XS.aload X0.here hx rfl (hb hby at_295) rfl rfl K) ?_
  show OwnG p e below s _ _ _ (T0.setTop (mkF m 297 _ [(.ref cc), (.ref dd)]))
  refine own_by (fun _ K => XS.aload X0.here hx rfl (hb hby at_297) rfl rfl K) ?_
  show OwnG p e below s _ _ _ (T0.setTop (mkF m 299 _ [(.ref ss), (.ref cc), (.ref dd)]))
  refine own_by (fun _ K => XS.iloadN X0.here hx rfl (hb hby at_299) rfl K) ?_
  show OwnG p e below s _ _ _ (T0.setTop (mkF m 300 _ [(.int 2), (.ref ss), (.ref cc), (.ref dd)]))
  refine own_by (fun _ K => XS.iconst X0.here hx rfl (hb hby at_300) K) ?_
  show OwnG p e below s _ _ _ (T0.setTop (mkF m 301 _ [(.int 0), (.int 2), (.ref ss), (.ref cc), (.ref dd)]))
  obtain ⟨_, _, ⟨T1, L1, k1, n1⟩, -, X1, ⟨Lc1, hQ1, l1, y1, z1⟩, st1⟩ := Jvm.LawKit.callS X0 hx (y := (⟨"com/example/etsinta/etsinta/search/BestRankPinLaw", "entryOk", "([I[D[DII)Z"⟩ : MethodName)) hown (mvT hZ (own_w hw 32 rfl)) (mvT hZ (own_w hw 33 rfl)) (mvT hZ (own_w hw 34 rfl)) (mvT hZ (own_w hw 35 rfl)) (by decide) (backOf (W := 0) (rm5p l Z a0 hw [] sv dd cc ss (2 : Int32) (0 : Int32) r0 0 fdd fcc fss h0 n0 Z0 Ad Ac As (by decide) ⟨by decide, rfl, by decide⟩ hb0 k_r0 v1_0 v2_0 (hss r0 k_r0)) hZ (own_w hw 35 rfl) (own_w hw 34 rfl) (by decide) (by decide)) (g := (mkF m 301 #[.val (.int cnt), .val (.int sb), .val (.int pb), .val (.int 2), .val (.ref ss), .val (.ref pa), .val (.ref dd), .val (.ref cc), .val (.ref ob), .unset, .unset] [(.int 0), (.int 2), (.ref ss), (.ref cc), (.ref dd)])) rfl (by rw [hml]; rfl) (argsL := [(.ref dd), (.ref cc), (.ref ss), (.int 2), (.int 0)]) (rest := []) (lenOf pd_11 rfl) rfl (by show 2 * 0 + _ ≤ _; exact Nat.le_of_eq rfl) (hb hby at_301) (fun _ _ => ⟨rfl, e0, (by decide : 0 + 1 + 1 + 1 + 1 + 1 + 2 + 0 ≤ _), (by decide : 0 + 4 + 4 + 4 + 4 + 5 + 32 + 0 ≤ _)⟩)
  dsimp only [Pt.U, Pt.locs, Pt.cells, Pt.slots] at X1 l1 y1 z1 st1 hQ1
  subst l1 y1 z1
  refine own_by (fun _ K => st1 _ K) ?_
  obtain ⟨rfl, N1q, hh1⟩ := hQ1
  have N1 := Fr.app N0 N1q
  have f2 := Ap
  rw [← hh1] at f2
  have f3 := As
  rw [← hh1] at f3
  have f4 := Ad
  rw [← hh1] at f4
  have f5 := Ac
  rw [← hh1] at f5
  have sz1 : n0 ≤ T1.heap.size := by rw [hh1]; exact Z0
  show OwnG p e below s _ _ _ (T1.setTop (mkF m 304 _ [(.int 1)]))
  refine own_by (fun _ K => XS.ifNo X1.here hx rfl (hb hby at_304) rfl ((if0 _ _).trans (feq (by decide)).1) K) ?_
  show OwnG p e below s _ _ _ (T1.setTop (mkF m 307 _ []))
  refine own_by (fun _ K => XS.aload X1.here hx rfl (hb hby at_307) rfl rfl K) ?_
  show OwnG p e below s _ _ _ (T1.setTop (mkF m 309 _ [(.ref dd)]))
  refine own_by (fun _ K => XS.aload X1.here hx rfl (hb hby at_309) rfl rfl K) ?_
  show OwnG p e below s _ _ _ (T1.setTop (mkF m 311 _ [(.ref cc), (.ref dd)]))
  refine own_by (fun _ K => XS.aload X1.here hx rfl (hb hby at_311) rfl rfl K) ?_
  show OwnG p e below s _ _ _ (T1.setTop (mkF m 313 _ [(.ref ss), (.ref cc), (.ref dd)]))
  refine own_by (fun _ K => XS.iloadN X1.here hx rfl (hb hby at_313) rfl K) ?_
  show OwnG p e below s _ _ _ (T1.setTop (mkF m 314 _ [(.int 2), (.ref ss), (.ref cc), (.ref dd)]))
  refine own_by (fun _ K => XS.iconst X1.here hx rfl (hb hby at_314) K) ?_
  show OwnG p e below s _ _ _ (T1.setTop (mkF m 315 _ [(.int 1), (.int 2), (.ref ss), (.ref cc), (.ref dd)]))
  obtain ⟨_, _, ⟨T6, L6, k6, n6⟩, -, X6, ⟨Lc6, hQ6, l6, y6, z6⟩, st6⟩ := Jvm.LawKit.callS X1 hx (y := (⟨"com/example/etsinta/etsinta/search/BestRankPinLaw", "entryOk", "([I[D[DII)Z"⟩ : MethodName)) hown (mvT hZ (own_w hw 32 rfl)) (mvT hZ (own_w hw 33 rfl)) (mvT hZ (own_w hw 34 rfl)) (mvT hZ (own_w hw 35 rfl)) (by decide) (backOf (W := 0) (rm5p l Z a0 hw [] sv dd cc ss (2 : Int32) (1 : Int32) r1 1 fdd fcc fss T1.heap n0 sz1 f4 f5 f3 (by decide) ⟨by decide, rfl, by decide⟩ hb1 k_r1 v1_1 v2_1 (hss r1 k_r1)) hZ (own_w hw 35 rfl) (own_w hw 34 rfl) (by decide) (by decide)) (g := (mkF m 315 #[.val (.int cnt), .val (.int sb), .val (.int pb), .val (.int 2), .val (.ref ss), .val (.ref pa), .val (.ref dd), .val (.ref cc), .val (.ref ob), .unset, .unset] [(.int 1), (.int 2), (.ref ss), (.ref cc), (.ref dd)])) rfl (by rw [hml]; rfl) (argsL := [(.ref dd), (.ref cc), (.ref ss), (.int 2), (.int 1)]) (rest := []) (lenOf pd_11 rfl) rfl (by show 2 * 0 + _ ≤ _; exact Nat.le_of_eq rfl) (hb hby at_315) (fun _ _ => ⟨rfl, (rfl : T1.heap = T1.heap), (by decide : 0 + 1 + 1 + 1 + 1 + 1 + 2 + 0 ≤ _), (by decide : 0 + 4 + 4 + 4 + 4 + 5 + 32 + 0 ≤ _)⟩)
  dsimp only [Pt.U, Pt.locs, Pt.cells, Pt.slots] at X6 l6 y6 z6 st6 hQ6
  subst l6 y6 z6
  refine own_by (fun _ K => st6 _ K) ?_
  obtain ⟨rfl, N6q, hh6⟩ := hQ6
  have N6 := Fr.app N1 N6q
  have f7 := f2
  rw [← hh6] at f7
  have f8 := f3
  rw [← hh6] at f8
  have f9 := f4
  rw [← hh6] at f9
  have f10 := f5
  rw [← hh6] at f10
  have sz6 : n0 ≤ T6.heap.size := by rw [hh6]; exact sz1
  show OwnG p e below s _ _ _ (T6.setTop (mkF m 318 _ [(.int 1)]))
  refine own_by (fun _ K => XS.ifNo X6.here hx rfl (hb hby at_318) rfl ((if0 _ _).trans (feq (by decide)).1) K) ?_
  show OwnG p e below s _ _ _ (T6.setTop (mkF m 321 _ []))
  refine own_by (fun _ K => XS.aload X6.here hx rfl (hb hby at_321) rfl rfl K) ?_
  show OwnG p e below s _ _ _ (T6.setTop (mkF m 323 _ [(.ref dd)]))
  refine own_by (fun _ K => XS.aload X6.here hx rfl (hb hby at_323) rfl rfl K) ?_
  show OwnG p e below s _ _ _ (T6.setTop (mkF m 325 _ [(.ref cc), (.ref dd)]))
  refine own_by (fun _ K => XS.aload X6.here hx rfl (hb hby at_325) rfl rfl K) ?_
  show OwnG p e below s _ _ _ (T6.setTop (mkF m 327 _ [(.ref ss), (.ref cc), (.ref dd)]))
  refine own_by (fun _ K => XS.iloadN X6.here hx rfl (hb hby at_327) rfl K) ?_
  show OwnG p e below s _ _ _ (T6.setTop (mkF m 328 _ [(.int 2), (.ref ss), (.ref cc), (.ref dd)]))
  refine own_by (fun _ K => XS.iconst X6.here hx rfl (hb hby at_328) K) ?_
  show OwnG p e below s _ _ _ (T6.setTop (mkF m 329 _ [(.int 2), (.int 2), (.ref ss), (.ref cc), (.ref dd)]))
  obtain ⟨_, _, ⟨T11, L11, k11, n11⟩, -, X11, ⟨Lc11, hQ11, l11, y11, z11⟩, st11⟩ := Jvm.LawKit.callS X6 hx (y := (⟨"com/example/etsinta/etsinta/search/BestRankPinLaw", "entryOk", "([I[D[DII)Z"⟩ : MethodName)) hown (mvT hZ (own_w hw 32 rfl)) (mvT hZ (own_w hw 33 rfl)) (mvT hZ (own_w hw 34 rfl)) (mvT hZ (own_w hw 35 rfl)) (by decide) (backOf (W := 0) (rm5z l Z a0 hw [] dd cc ss (2 : Int32) (2 : Int32) T6.heap n0 sz6 (by decide)) hZ (own_w hw 35 rfl) (own_w hw 34 rfl) (by decide) (by decide)) (g := (mkF m 329 #[.val (.int cnt), .val (.int sb), .val (.int pb), .val (.int 2), .val (.ref ss), .val (.ref pa), .val (.ref dd), .val (.ref cc), .val (.ref ob), .unset, .unset] [(.int 2), (.int 2), (.ref ss), (.ref cc), (.ref dd)])) rfl (by rw [hml]; rfl) (argsL := [(.ref dd), (.ref cc), (.ref ss), (.int 2), (.int 2)]) (rest := []) (lenOf pd_11 rfl) rfl (by show 2 * 0 + _ ≤ _; exact Nat.le_of_eq rfl) (hb hby at_329) (fun _ _ => ⟨rfl, (rfl : T6.heap = T6.heap), (by decide : 0 + 1 + 1 + 1 + 1 + 1 + 2 + 0 ≤ _), (by decide : 0 + 4 + 4 + 4 + 4 + 5 + 32 + 0 ≤ _)⟩)
  dsimp only [Pt.U, Pt.locs, Pt.cells, Pt.slots] at X11 l11 y11 z11 st11 hQ11
  subst l11 y11 z11
  refine own_by (fun _ K => st11 _ K) ?_
  obtain ⟨rfl, N11q, hh11⟩ := hQ11
  have N11 := Fr.app N6 N11q
  have f12 := f7
  rw [← hh11] at f12
  have f13 := f8
  rw [← hh11] at f13
  have f14 := f9
  rw [← hh11] at f14
  have f15 := f10
  rw [← hh11] at f15
  have sz11 : n0 ≤ T11.heap.size := by rw [hh11]; exact sz6
  show OwnG p e below s _ _ _ (T11.setTop (mkF m 332 _ [(.int 1)]))
  refine own_by (fun _ K => XS.ifNo X11.here hx rfl (hb hby at_332) rfl ((if0 _ _).trans (feq (by decide)).1) K) ?_
  show OwnG p e below s _ _ _ (T11.setTop (mkF m 335 _ []))
  refine own_by (fun _ K => XS.aload X11.here hx rfl (hb hby at_335) rfl rfl K) ?_
  show OwnG p e below s _ _ _ (T11.setTop (mkF m 337 _ [(.ref dd)]))
  refine own_by (fun _ K => XS.aload X11.here hx rfl (hb hby at_337) rfl rfl K) ?_
  show OwnG p e below s _ _ _ (T11.setTop (mkF m 339 _ [(.ref cc), (.ref dd)]))
  refine own_by (fun _ K => XS.aload X11.here hx rfl (hb hby at_339) rfl rfl K) ?_
  show OwnG p e below s _ _ _ (T11.setTop (mkF m 341 _ [(.ref ss), (.ref cc), (.ref dd)]))
  refine own_by (fun _ K => XS.iloadN X11.here hx rfl (hb hby at_341) rfl K) ?_
  show OwnG p e below s _ _ _ (T11.setTop (mkF m 342 _ [(.int 2), (.ref ss), (.ref cc), (.ref dd)]))
  refine own_by (fun _ K => XS.iconst X11.here hx rfl (hb hby at_342) K) ?_
  show OwnG p e below s _ _ _ (T11.setTop (mkF m 343 _ [(.int 3), (.int 2), (.ref ss), (.ref cc), (.ref dd)]))
  obtain ⟨_, _, ⟨T16, L16, k16, n16⟩, -, X16, ⟨Lc16, hQ16, l16, y16, z16⟩, st16⟩ := Jvm.LawKit.callS X11 hx (y := (⟨"com/example/etsinta/etsinta/search/BestRankPinLaw", "entryOk", "([I[D[DII)Z"⟩ : MethodName)) hown (mvT hZ (own_w hw 32 rfl)) (mvT hZ (own_w hw 33 rfl)) (mvT hZ (own_w hw 34 rfl)) (mvT hZ (own_w hw 35 rfl)) (by decide) (backOf (W := 0) (rm5z l Z a0 hw [] dd cc ss (2 : Int32) (3 : Int32) T11.heap n0 sz11 (by decide)) hZ (own_w hw 35 rfl) (own_w hw 34 rfl) (by decide) (by decide)) (g := (mkF m 343 #[.val (.int cnt), .val (.int sb), .val (.int pb), .val (.int 2), .val (.ref ss), .val (.ref pa), .val (.ref dd), .val (.ref cc), .val (.ref ob), .unset, .unset] [(.int 3), (.int 2), (.ref ss), (.ref cc), (.ref dd)])) rfl (by rw [hml]; rfl) (argsL := [(.ref dd), (.ref cc), (.ref ss), (.int 2), (.int 3)]) (rest := []) (lenOf pd_11 rfl) rfl (by show 2 * 0 + _ ≤ _; exact Nat.le_of_eq rfl) (hb hby at_343) (fun _ _ => ⟨rfl, (rfl : T11.heap = T11.heap), (by decide : 0 + 1 + 1 + 1 + 1 + 1 + 2 + 0 ≤ _), (by decide : 0 + 4 + 4 + 4 + 4 + 5 + 32 + 0 ≤ _)⟩)
  dsimp only [Pt.U, Pt.locs, Pt.cells, Pt.slots] at X16 l16 y16 z16 st16 hQ16
  subst l16 y16 z16
  refine own_by (fun _ K => st16 _ K) ?_
  obtain ⟨rfl, N16q, hh16⟩ := hQ16
  have N16 := Fr.app N11 N16q
  have f17 := f12
  rw [← hh16] at f17
  have f18 := f13
  rw [← hh16] at f18
  have f19 := f14
  rw [← hh16] at f19
  have f20 := f15
  rw [← hh16] at f20
  have sz16 : n0 ≤ T16.heap.size := by rw [hh16]; exact sz11
  show OwnG p e below s _ _ _ (T16.setTop (mkF m 346 _ [(.int 1)]))
  refine own_by (fun _ K => XS.ifNo X16.here hx rfl (hb hby at_346) rfl ((if0 _ _).trans (feq (by decide)).1) K) ?_
  show OwnG p e below s _ _ _ (T16.setTop (mkF m 349 _ []))
  refine own_by (fun _ K => XS.iconst X16.here hx rfl (hb hby at_349) K) ?_
  show OwnG p e below s _ _ _ (T16.setTop (mkF m 350 _ [(.int 1)]))
  refine own_by (fun _ K => XS.goto X16.here hx rfl (pc0 := 350) (pc' := 354) rfl (hb hby at_350) (by decide) (by decide) K) ?_
  show OwnG p e below s _ _ _ (T16.setTop (mkF m 354 _ [(.int 1)]))
  refine own_by (fun _ K => XS.istore X16.here hx rfl (hb hby at_354) rfl (l' := #[.val (.int cnt), .val (.int sb), .val (.int pb), .val (.int 2), .val (.ref ss), .val (.ref pa), .val (.ref dd), .val (.ref cc), .val (.ref ob), .val (.int 1), .unset]) rfl K) ?_
  show OwnG p e below s _ _ _ (T16.setTop (mkF m 356 _ []))
  refine own_by (fun _ K => XS.iload X16.here hx rfl (hb hby at_356) rfl K) ?_
  show OwnG p e below s _ _ _ (T16.setTop (mkF m 358 _ [(.int 1)]))
  refine own_by (fun _ K => XS.ifYes X16.here hx rfl (pc0 := 358) (pc' := 363) rfl (hb hby at_358) rfl ((if0 _ _).trans (feq (by decide)).2) (by decide) (by decide) K) ?_
  show OwnG p e below s _ _ _ (T16.setTop (mkF m 363 _ []))
  refine own_by (fun _ K => XS.aload X16.here hx rfl (hb hby at_363) rfl rfl K) ?_
  show OwnG p e below s _ _ _ (T16.setTop (mkF m 365 _ [(.ref dd)]))
  refine own_by (fun _ K => XS.iloadN X16.here hx rfl (hb hby at_365) rfl K) ?_
  show OwnG p e below s _ _ _ (T16.setTop (mkF m 366 _ [(.int 2), (.ref dd)]))
  refine own_by (fun _ K => XS.iconst X16.here hx rfl (hb hby at_366) K) ?_
  show OwnG p e below s _ _ _ (T16.setTop (mkF m 367 _ [(.int 0), (.int 2), (.ref dd)]))
  obtain ⟨_, _, ⟨T21, L21, k21, n21⟩, -, X21, ⟨Lc21, hQ21, l21, y21, z21⟩, st21⟩ := Jvm.LawKit.callS X16 hx (y := (⟨"com/example/etsinta/etsinta/search/BestRankPinLaw", "bit", "([III)I"⟩ : MethodName)) hown (mvT hZ (own_w hw 36 rfl)) (mvT hZ (own_w hw 37 rfl)) (mvT hZ (own_w hw 34 rfl)) (mvT hZ (own_w hw 38 rfl)) (by decide) (backOf (W := 0) (rm6p l Z a0 hw [] dd (2 : Int32) (0 : Int32) r0 0 fdd T16.heap n0 sz16 f19 (by decide) ⟨by decide, rfl, by decide⟩ v1_0) hZ (own_w hw 38 rfl) (own_w hw 34 rfl) (by decide) (by decide)) (g := (mkF m 367 #[.val (.int cnt), .val (.int sb), .val (.int pb), .val (.int 2), .val (.ref ss), .val (.ref pa), .val (.ref dd), .val (.ref cc), .val (.ref ob), .val (.int 1), .unset] [(.int 0), (.int 2), (.ref dd)])) rfl (by rw [hml]; rfl) (argsL := [(.ref dd), (.int 2), (.int 0)]) (rest := []) (lenOf pd_12 rfl) rfl (by show 2 * 0 + _ ≤ _; exact Nat.le_of_eq rfl) (hb hby at_367) (fun _ _ => ⟨rfl, (rfl : T16.heap = T16.heap), (by decide : 0 + 1 + 1 + 1 + 1 + 1 + 2 + 0 ≤ _), (by decide : 0 + 4 + 4 + 4 + 4 + 5 + 32 + 0 ≤ _)⟩)
  dsimp only [Pt.U, Pt.locs, Pt.cells, Pt.slots] at X21 l21 y21 z21 st21 hQ21
  subst l21 y21 z21
  refine own_by (fun _ K => st21 _ K) ?_
  obtain ⟨rfl, N21q, hh21⟩ := hQ21
  have N21 := Fr.app N16 N21q
  have f22 := f17
  rw [← hh21] at f22
  have f23 := f18
  rw [← hh21] at f23
  have f24 := f19
  rw [← hh21] at f24
  have f25 := f20
  rw [← hh21] at f25
  have sz21 : n0 ≤ T21.heap.size := by rw [hh21]; exact sz16
  show OwnG p e below s _ _ _ (T21.setTop (mkF m 370 _ [(.int ((1 : Int32) <<< (r0 &&& 31)))]))
  refine own_by (fun _ K => XS.aload X21.here hx rfl (hb hby at_370) rfl rfl K) ?_
  show OwnG p e below s _ _ _ (T21.setTop (mkF m 372 _ [(.ref dd), (.int ((1 : Int32) <<< (r0 &&& 31)))]))
  refine own_by (fun _ K => XS.iloadN X21.here hx rfl (hb hby at_372) rfl K) ?_
  show OwnG p e below s _ _ _ (T21.setTop (mkF m 373 _ [(.int 2), (.ref dd), (.int ((1 : Int32) <<< (r0 &&& 31)))]))
  refine own_by (fun _ K => XS.iconst X21.here hx rfl (hb hby at_373) K) ?_
  show OwnG p e below s _ _ _ (T21.setTop (mkF m 374 _ [(.int 1), (.int 2), (.ref dd), (.int ((1 : Int32) <<< (r0 &&& 31)))]))
  obtain ⟨_, _, ⟨T26, L26, k26, n26⟩, -, X26, ⟨Lc26, hQ26, l26, y26, z26⟩, st26⟩ := Jvm.LawKit.callS X21 hx (y := (⟨"com/example/etsinta/etsinta/search/BestRankPinLaw", "bit", "([III)I"⟩ : MethodName)) hown (mvT hZ (own_w hw 36 rfl)) (mvT hZ (own_w hw 37 rfl)) (mvT hZ (own_w hw 34 rfl)) (mvT hZ (own_w hw 38 rfl)) (by decide) (backOf (W := 1) (rm6p l Z a0 hw [] dd (2 : Int32) (1 : Int32) r1 1 fdd T21.heap n0 sz21 f24 (by decide) ⟨by decide, rfl, by decide⟩ v1_1) hZ (own_w hw 38 rfl) (own_w hw 34 rfl) (by decide) (by decide)) (g := (mkF m 374 #[.val (.int cnt), .val (.int sb), .val (.int pb), .val (.int 2), .val (.ref ss), .val (.ref pa), .val (.ref dd), .val (.ref cc), .val (.ref ob), .val (.int 1), .unset] [(.int 1), (.int 2), (.ref dd), (.int ((1 : Int32) <<< (r0 &&& 31)))])) rfl (by rw [hml]; rfl) (argsL := [(.ref dd), (.int 2), (.int 1)]) (rest := [(.int ((1 : Int32) <<< (r0 &&& 31)))]) (lenOf pd_12 rfl) rfl (by show 2 * 0 + _ ≤ _; exact Nat.le_of_eq rfl) (hb hby at_374) (fun _ _ => ⟨rfl, (rfl : T21.heap = T21.heap), (by decide : 0 + 1 + 1 + 1 + 1 + 1 + 2 + 0 ≤ _), (by decide : 0 + 4 + 4 + 4 + 4 + 5 + 32 + 0 ≤ _)⟩)
  dsimp only [Pt.U, Pt.locs, Pt.cells, Pt.slots] at X26 l26 y26 z26 st26 hQ26
  subst l26 y26 z26
  refine own_by (fun _ K => st26 _ K) ?_
  obtain ⟨rfl, N26q, hh26⟩ := hQ26
  have N26 := Fr.app N21 N26q
  have f27 := f22
  rw [← hh26] at f27
  have f28 := f23
  rw [← hh26] at f28
  have f29 := f24
  rw [← hh26] at f29
  have f30 := f25
  rw [← hh26] at f30
  have sz26 : n0 ≤ T26.heap.size := by rw [hh26]; exact sz21
  show OwnG p e below s _ _ _ (T26.setTop (mkF m 377 _ [(.int ((1 : Int32) <<< (r1 &&& 31))), (.int ((1 : Int32) <<< (r0 &&& 31)))]))
  refine own_by (fun _ K => XS.ior X26.here hx rfl (hb hby at_377) rfl K) ?_
  show OwnG p e below s _ _ _ (T26.setTop (mkF m 378 _ [(.int (((1 : Int32) <<< (r0 &&& 31)) ||| ((1 : Int32) <<< (r1 &&& 31))))]))
  refine own_by (fun _ K => XS.aload X26.here hx rfl (hb hby at_378) rfl rfl K) ?_
  show OwnG p e below s _ _ _ (T26.setTop (mkF m 380 _ [(.ref dd), (.int (((1 : Int32) <<< (r0 &&& 31)) ||| ((1 : Int32) <<< (r1 &&& 31))))]))
  refine own_by (fun _ K => XS.iloadN X26.here hx rfl (hb hby at_380) rfl K) ?_
  show OwnG p e below s _ _ _ (T26.setTop (mkF m 381 _ [(.int 2), (.ref dd), (.int (((1 : Int32) <<< (r0 &&& 31)) ||| ((1 : Int32) <<< (r1 &&& 31))))]))
  refine own_by (fun _ K => XS.iconst X26.here hx rfl (hb hby at_381) K) ?_
  show OwnG p e below s _ _ _ (T26.setTop (mkF m 382 _ [(.int 2), (.int 2), (.ref dd), (.int (((1 : Int32) <<< (r0 &&& 31)) ||| ((1 : Int32) <<< (r1 &&& 31))))]))
  obtain ⟨_, _, ⟨T31, L31, k31, n31⟩, -, X31, ⟨Lc31, hQ31, l31, y31, z31⟩, st31⟩ := Jvm.LawKit.callS X26 hx (y := (⟨"com/example/etsinta/etsinta/search/BestRankPinLaw", "bit", "([III)I"⟩ : MethodName)) hown (mvT hZ (own_w hw 36 rfl)) (mvT hZ (own_w hw 37 rfl)) (mvT hZ (own_w hw 34 rfl)) (mvT hZ (own_w hw 38 rfl)) (by decide) (backOf (W := 1) (rm6z l Z a0 hw [] dd (2 : Int32) (2 : Int32) T26.heap n0 sz26 (by decide)) hZ (own_w hw 38 rfl) (own_w hw 34 rfl) (by decide) (by decide)) (g := (mkF m 382 #[.val (.int cnt), .val (.int sb), .val (.int pb), .val (.int 2), .val (.ref ss), .val (.ref pa), .val (.ref dd), .val (.ref cc), .val (.ref ob), .val (.int 1), .unset] [(.int 2), (.int 2), (.ref dd), (.int (((1 : Int32) <<< (r0 &&& 31)) ||| ((1 : Int32) <<< (r1 &&& 31))))])) rfl (by rw [hml]; rfl) (argsL := [(.ref dd), (.int 2), (.int 2)]) (rest := [(.int (((1 : Int32) <<< (r0 &&& 31)) ||| ((1 : Int32) <<< (r1 &&& 31))))]) (lenOf pd_12 rfl) rfl (by show 2 * 0 + _ ≤ _; exact Nat.le_of_eq rfl) (hb hby at_382) (fun _ _ => ⟨rfl, (rfl : T26.heap = T26.heap), (by decide : 0 + 1 + 1 + 1 + 1 + 1 + 2 + 0 ≤ _), (by decide : 0 + 4 + 4 + 4 + 4 + 5 + 32 + 0 ≤ _)⟩)
  dsimp only [Pt.U, Pt.locs, Pt.cells, Pt.slots] at X31 l31 y31 z31 st31 hQ31
  subst l31 y31 z31
  refine own_by (fun _ K => st31 _ K) ?_
  obtain ⟨rfl, N31q, hh31⟩ := hQ31
  have N31 := Fr.app N26 N31q
  have f32 := f27
  rw [← hh31] at f32
  have f33 := f28
  rw [← hh31] at f33
  have f34 := f29
  rw [← hh31] at f34
  have f35 := f30
  rw [← hh31] at f35
  have sz31 : n0 ≤ T31.heap.size := by rw [hh31]; exact sz26
  show OwnG p e below s _ _ _ (T31.setTop (mkF m 385 _ [(.int 0), (.int (((1 : Int32) <<< (r0 &&& 31)) ||| ((1 : Int32) <<< (r1 &&& 31))))]))
  refine own_by (fun _ K => XS.ior X31.here hx rfl (hb hby at_385) rfl K) ?_
  show OwnG p e below s _ _ _ (T31.setTop (mkF m 386 _ [(.int ((((1 : Int32) <<< (r0 &&& 31)) ||| ((1 : Int32) <<< (r1 &&& 31))) ||| (0 : Int32)))]))
  refine own_by (fun _ K => XS.aload X31.here hx rfl (hb hby at_386) rfl rfl K) ?_
  show OwnG p e below s _ _ _ (T31.setTop (mkF m 388 _ [(.ref dd), (.int ((((1 : Int32) <<< (r0 &&& 31)) ||| ((1 : Int32) <<< (r1 &&& 31))) ||| (0 : Int32)))]))
  refine own_by (fun _ K => XS.iloadN X31.here hx rfl (hb hby at_388) rfl K) ?_
  show OwnG p e below s _ _ _ (T31.setTop (mkF m 389 _ [(.int 2), (.ref dd), (.int ((((1 : Int32) <<< (r0 &&& 31)) ||| ((1 : Int32) <<< (r1 &&& 31))) ||| (0 : Int32)))]))
  refine own_by (fun _ K => XS.iconst X31.here hx rfl (hb hby at_389) K) ?_
  show OwnG p e below s _ _ _ (T31.setTop (mkF m 390 _ [(.int 3), (.int 2), (.ref dd), (.int ((((1 : Int32) <<< (r0 &&& 31)) ||| ((1 : Int32) <<< (r1 &&& 31))) ||| (0 : Int32)))]))
  obtain ⟨_, _, ⟨T36, L36, k36, n36⟩, -, X36, ⟨Lc36, hQ36, l36, y36, z36⟩, st36⟩ := Jvm.LawKit.callS X31 hx (y := (⟨"com/example/etsinta/etsinta/search/BestRankPinLaw", "bit", "([III)I"⟩ : MethodName)) hown (mvT hZ (own_w hw 36 rfl)) (mvT hZ (own_w hw 37 rfl)) (mvT hZ (own_w hw 34 rfl)) (mvT hZ (own_w hw 38 rfl)) (by decide) (backOf (W := 1) (rm6z l Z a0 hw [] dd (2 : Int32) (3 : Int32) T31.heap n0 sz31 (by decide)) hZ (own_w hw 38 rfl) (own_w hw 34 rfl) (by decide) (by decide)) (g := (mkF m 390 #[.val (.int cnt), .val (.int sb), .val (.int pb), .val (.int 2), .val (.ref ss), .val (.ref pa), .val (.ref dd), .val (.ref cc), .val (.ref ob), .val (.int 1), .unset] [(.int 3), (.int 2), (.ref dd), (.int ((((1 : Int32) <<< (r0 &&& 31)) ||| ((1 : Int32) <<< (r1 &&& 31))) ||| (0 : Int32)))])) rfl (by rw [hml]; rfl) (argsL := [(.ref dd), (.int 2), (.int 3)]) (rest := [(.int ((((1 : Int32) <<< (r0 &&& 31)) ||| ((1 : Int32) <<< (r1 &&& 31))) ||| (0 : Int32)))]) (lenOf pd_12 rfl) rfl (by show 2 * 0 + _ ≤ _; exact Nat.le_of_eq rfl) (hb hby at_390) (fun _ _ => ⟨rfl, (rfl : T31.heap = T31.heap), (by decide : 0 + 1 + 1 + 1 + 1 + 1 + 2 + 0 ≤ _), (by decide : 0 + 4 + 4 + 4 + 4 + 5 + 32 + 0 ≤ _)⟩)
  dsimp only [Pt.U, Pt.locs, Pt.cells, Pt.slots] at X36 l36 y36 z36 st36 hQ36
  subst l36 y36 z36
  refine own_by (fun _ K => st36 _ K) ?_
  obtain ⟨rfl, N36q, hh36⟩ := hQ36
  have N36 := Fr.app N31 N36q
  have f37 := f32
  rw [← hh36] at f37
  have f38 := f33
  rw [← hh36] at f38
  have f39 := f34
  rw [← hh36] at f39
  have f40 := f35
  rw [← hh36] at f40
  have sz36 : n0 ≤ T36.heap.size := by rw [hh36]; exact sz31
  show OwnG p e below s _ _ _ (T36.setTop (mkF m 393 _ [(.int 0), (.int ((((1 : Int32) <<< (r0 &&& 31)) ||| ((1 : Int32) <<< (r1 &&& 31))) ||| (0 : Int32)))]))
  refine own_by (fun _ K => XS.ior X36.here hx rfl (hb hby at_393) rfl K) ?_
  show OwnG p e below s _ _ _ (T36.setTop (mkF m 394 _ [(.int (((((1 : Int32) <<< (r0 &&& 31)) ||| ((1 : Int32) <<< (r1 &&& 31))) ||| (0 : Int32)) ||| (0 : Int32)))]))
  refine own_by (fun _ K => XS.istore X36.here hx rfl (hb hby at_394) rfl (l' := #[.val (.int cnt), .val (.int sb), .val (.int pb), .val (.int 2), .val (.ref ss), .val (.ref pa), .val (.ref dd), .val (.ref cc), .val (.ref ob), .val (.int 1), .val (.int (((((1 : Int32) <<< (r0 &&& 31)) ||| ((1 : Int32) <<< (r1 &&& 31))) ||| (0 : Int32)) ||| (0 : Int32)))]) rfl K) ?_
  show OwnG p e below s _ _ _ (T36.setTop (mkF m 396 _ []))
  refine own_by (fun _ K => XS.iload X36.here hx rfl (hb hby at_396) rfl K) ?_
  show OwnG p e below s _ _ _ (T36.setTop (mkF m 398 _ [(.int (((((1 : Int32) <<< (r0 &&& 31)) ||| ((1 : Int32) <<< (r1 &&& 31))) ||| (0 : Int32)) ||| (0 : Int32)))]))
  refine own_by (fun _ K => XS.iconst X36.here hx rfl (hb hby at_398) K) ?_
  show OwnG p e below s _ _ _ (T36.setTop (mkF m 399 _ [(.int 1), (.int (((((1 : Int32) <<< (r0 &&& 31)) ||| ((1 : Int32) <<< (r1 &&& 31))) ||| (0 : Int32)) ||| (0 : Int32)))]))
  refine own_by (fun _ K => XS.iloadN X36.here hx rfl (hb hby at_399) rfl K) ?_
  show OwnG p e below s _ _ _ (T36.setTop (mkF m 400 _ [(.int 2), (.int 1), (.int (((((1 : Int32) <<< (r0 &&& 31)) ||| ((1 : Int32) <<< (r1 &&& 31))) ||| (0 : Int32)) ||| (0 : Int32)))]))
  refine own_by (fun _ K => XS.ishl X36.here hx rfl (hb hby at_400) rfl K) ?_
  show OwnG p e below s _ _ _ (T36.setTop (mkF m 401 _ [(.int ((1 : Int32) <<< ((2 : Int32) &&& 31))), (.int (((((1 : Int32) <<< (r0 &&& 31)) ||| ((1 : Int32) <<< (r1 &&& 31))) ||| (0 : Int32)) ||| (0 : Int32)))]))
  refine own_by (fun _ K => XS.iconst X36.here hx rfl (hb hby at_401) K) ?_
  show OwnG p e below s _ _ _ (T36.setTop (mkF m 402 _ [(.int 1), (.int ((1 : Int32) <<< ((2 : Int32) &&& 31))), (.int (((((1 : Int32) <<< (r0 &&& 31)) ||| ((1 : Int32) <<< (r1 &&& 31))) ||| (0 : Int32)) ||| (0 : Int32)))]))
  refine own_by (fun _ K => XS.isub X36.here hx rfl (hb hby at_402) rfl K) ?_
  show OwnG p e below s _ _ _ (T36.setTop (mkF m 403 _ [(.int (((1 : Int32) <<< ((2 : Int32) &&& 31)) - (1 : Int32))), (.int (((((1 : Int32) <<< (r0 &&& 31)) ||| ((1 : Int32) <<< (r1 &&& 31))) ||| (0 : Int32)) ||| (0 : Int32)))]))
  refine own_by (fun _ K => XS.icmpYes X36.here hx rfl (pc0 := 403) (pc' := 408) rfl (hb hby at_403) rfl (teq hm).1 (by decide) (by decide) K) ?_
  show OwnG p e below s _ _ _ (T36.setTop (mkF m 408 _ []))
  exact own_o2 cnt sb pb _ sv pl ob pa ss dd cc fp fss fdd fcc r0 r1 X36 hx hby hml hret hlk hown hnm hZ hw (rfl : T36.heap = T36.heap) N36 sz36 f37 f38 f39 f40 hP hss k_r0 k_r1 v1_0 v1_1 v2_0 v2_1 hb0 hb1 ho0 hm
set_option maxRecDepth 65536 in
set_option maxHeartbeats 40000000 in
theorem own_r2 {p : Program} {l : Launch} {e : Env} {s : State} {m : MethodId} {args : Array Value} {below : List Frame} {meth : Method} {c : Code} {T0 : State} {locs : List Loc} {Z : State} {a0 : Array Value} {h0 : Heap} {n0 : Nat} (cnt sb pb : Int32) (sv pl : Int32 → Int32) (ob sa da pa ss dd cc : Addr) (fd fs fp fss : Nat → Value) (r0 r1 : Int32) (X0 : Stand p l e room_1 s m args below meth c T0 locs (0 + 1 + 1 + 1 + 1 + 1 + 2) (0 + 4 + 4 + 4 + 4 + 5 + 32)) (hx : p.tables.exec = Jvm.exec) (hby : c.code = code) (hml : c.maxLocals = 11) (hret : meth.sig.returnType = some .boolean) (hlk : meth.locks = false) (hown : s.vm.findClass "com/example/etsinta/etsinta/search/BestRankPinLaw" = some m.cls) (hnm : meth.name = "law") (hZ : Z.Warmed39 s.vm) (hw : ∀ d ∈ tables_1, d.before a0 Z = true) (e0 : T0.heap = h0) (N0 : Fr n0 locs) (Z0 : n0 ≤ h0.size) (Sb : own_S Z h0 ob sa da pa (2 : Int32) fd fs fp) (Nn : own_N n0 ob sa da pa) (Mm : own_M ob sa da pa ss dd cc) (hP : own_P pl fp) (hss : ∀ d, own_ok d → fss d.toNatClampNeg = .double (FP.i2d (sv d))) (As : OwnA Z h0 ss .double 4 fss) (Ad : OwnA Z h0 dd .int 4 (fun _ => (defaultValue .int))) (Ac : OwnA Z h0 cc .double 4 (fun _ => (defaultValue .double))) (gd : n0 ≤ dd) (gc : n0 ≤ cc) (t0 : own_at sv fd fs 0 r0) (t1 : own_at sv fd fs 1 r1) (hb0 : ¬ r0 < 0 ∧ r0 < (2 : Int32)) (hb1 : ¬ r1 < 0 ∧ r1 < (2 : Int32)) (ho0 : ¬ own_K sv pl r0 < own_K sv pl r1) (hm : ((((1 : Int32) <<< (r0 &&& 31)) ||| ((1 : Int32) <<< (r1 &&& 31))) ||| (0 : Int32)) ||| (0 : Int32) = ((1 : Int32) <<< ((2 : Int32) &&& 31)) - (1 : Int32)) :
    OwnG p e below s (fun v h L => v = some (.int 1) ∧ Fr n0 L) room_1.cells room_1.slots (T0.setTop (mkF m 194 #[.val (.int cnt), .val (.int sb), .val (.int pb), .val (.int 2), .val (.ref ss), .val (.ref pa), .val (.ref dd), .val (.ref cc), .val (.ref ob), .unset, .unset] [])) := by
  show OwnG p e below s _ _ _ (T0.setTop (mkF m 194 #[.val (.int cnt), .val (.int sb), .val (.int pb), .val (.int 2), .val (.ref ss), .val (.ref pa), .val (.ref dd), .val (.ref cc), .val (.ref ob), .unset, .unset] []))
  refine own_by (fun _ K => XS.iloadN X0.here hx rfl (hb hby at_194) rfl K) ?_
  show OwnG p e below s _ _ _ (T0.setTop (mkF m 195 _ [(.int 2)]))
  refine own_by (fun _ K => XS.ifNo X0.here hx rfl (hb hby at_195) rfl ((if0 _ _).trans (tlt (by decide)).2.2.2) K) ?_
  show OwnG p e below s _ _ _ (T0.setTop (mkF m 198 _ []))
  refine own_by (fun _ K => XS.aload X0.here hx rfl (hb hby at_198) rfl rfl K) ?_
  show OwnG p e below s _ _ _ (T0.setTop (mkF m 200 _ [(.ref dd)]))
  refine own_by (fun _ K => XS.iconst X0.here hx rfl (hb hby at_200) K) ?_
  show OwnG p e below s _ _ _ (T0.setTop (mkF m 201 _ [(.int 0), (.ref dd)]))
  refine own_by (fun _ K => XS.aload X0.here hx rfl (hb hby at_201) rfl rfl K) ?_
  show OwnG p e below s _ _ _ (T0.setTop (mkF m 203 _ [(.ref ob), (.int 0), (.ref dd)]))
  refine own_by (fun _ K => XS.iconst X0.here hx rfl (hb hby at_203) K) ?_
  show OwnG p e below s _ _ _ (T0.setTop (mkF m 204 _ [(.int 0), (.ref ob), (.int 0), (.ref dd)]))
  obtain ⟨cq1, kq1, q1a, q1b, q1c⟩ := isOf hZ e0 Sb.1
  obtain ⟨_, _, ⟨T1, L1, k1, n1⟩, -, X1, ⟨Lc1, hQ1, l1, y1, z1⟩, st1⟩ := X0.virtualBack hx (y := (⟨"com/example/etsinta/etsinta/search/Best", "document", "(I)I"⟩ : MethodName)) (z := (⟨"com/example/etsinta/etsinta/search/Best", "document", "(I)I"⟩ : MethodName)) hown (mvT hZ (own_w hw 51 rfl)) (mvT hZ (own_w hw 52 rfl)) (notFace_of_selects (args := #[]) (mvT hZ (own_w hw 54 rfl))) (mvT hZ (own_w hw 54 rfl)) (mvT hZ (own_w hw 53 rfl)) (by decide) (backOf (W := 2) (rm10 l Z a0 hw [] ob sa da pa (2 : Int32) fd fs fp (0 : Int32) 0 r0 h0 n0 Z0 ⟨Sb.1, Sb.2.1, Sb.2.2.1, Sb.2.2.2.1, Sb.2.2.2.2.1, Sb.2.2.2.2.2.1, Sb.2.2.2.2.2.2.1, Sb.2.2.2.2.2.2.2.1, Sb.2.2.2.2.2.2.2.2⟩ ⟨by decide, rfl, by decide⟩ (by decide) t0.1) hZ (own_w hw 55 rfl) (own_w hw 5 rfl) (by decide) (by decide)) q1a q1c (g := (mkF m 204 #[.val (.int cnt), .val (.int sb), .val (.int pb), .val (.int 2), .val (.ref ss), .val (.ref pa), .val (.ref dd), .val (.ref cc), .val (.ref ob), .unset, .unset] [(.int 0), (.ref ob), (.int 0), (.ref dd)])) rfl (by rw [hml]; rfl) (Steps.refl _) (argsL := [(.int 0)]) (rest := [(.int 0), (.ref dd)]) (lenOf pd_9 rfl) rfl (by show 2 * 0 + _ ≤ _; exact Nat.le_of_eq rfl) (hb hby at_204) (fun _ _ => ⟨rfl, e0, (by decide : 0 + 1 + 1 + 1 + 1 + 1 + 2 + 0 ≤ _), (by decide : 0 + 4 + 4 + 4 + 4 + 5 + 32 + 0 ≤ _)⟩)
  dsimp only [Pt.U, Pt.locs, Pt.cells, Pt.slots] at X1 l1 y1 z1 st1 hQ1
  subst l1 y1 z1
  refine own_by (fun _ K => st1.trans K) ?_
  obtain ⟨rfl, N1q, hh1⟩ := hQ1
  have N1 := Fr.app N0 N1q
  have f2 := Sb.1
  rw [← hh1] at f2
  have f3 := Sb.2.1
  rw [← hh1] at f3
  have f4 := Sb.2.2.1
  rw [← hh1] at f4
  have f5 := Sb.2.2.2.1
  rw [← hh1] at f5
  have f6 := Sb.2.2.2.2.1
  rw [← hh1] at f6
  have f7 := Sb.2.2.2.2.2.1
  rw [← hh1] at f7
  have f8 := Sb.2.2.2.2.2.2.1
  rw [← hh1] at f8
  have f9 := Sb.2.2.2.2.2.2.2.1
  rw [← hh1] at f9
  have f10 := Sb.2.2.2.2.2.2.2.2
  rw [← hh1] at f10
  have f11 := As
  rw [← hh1] at f11
  have f12 := Ad
  rw [← hh1] at f12
  have f13 := Ac
  rw [← hh1] at f13
  have sz1 : n0 ≤ T1.heap.size := by rw [hh1]; exact Z0
  show OwnG p e below s _ _ _ (T1.setTop (mkF m 207 _ [(.int r0), (.int 0), (.ref dd)]))
  obtain ⟨T14, h14, X14, e14, W14, A14, st14⟩ := own_stI X1 hx hZ (rfl : T1.heap = T1.heap) f12 (j := (0 : Int32)) (i := 0) ⟨by decide, rfl, by decide⟩ (g := (mkF m 207 #[.val (.int cnt), .val (.int sb), .val (.int pb), .val (.int 2), .val (.ref ss), .val (.ref pa), .val (.ref dd), .val (.ref cc), .val (.ref ob), .unset, .unset] [(.int r0), (.int 0), (.ref dd)])) rfl rfl (hb hby at_207)
  refine own_by (fun _ K => st14 _ K) ?_
  have f15 := Exa.wr W14 f2
  have f16 := Fld.other W14 f3 (Or.inl (Ne.symm Mm.2.2.2.1))
  have f17 := Fld.other W14 f4 (Or.inl (Ne.symm Mm.2.2.2.1))
  have f18 := Fld.other W14 f5 (Or.inl (Ne.symm Mm.2.2.2.1))
  have f19 := Fld.other W14 f6 (Or.inl (Ne.symm Mm.2.2.2.1))
  have f20 := Fld.other W14 f7 (Or.inl (Ne.symm Mm.2.2.2.1))
  have f21 := OwnA.other W14 f8 (Ne.symm Mm.2.2.2.2.2.1)
  have f22 := OwnA.other W14 f9 (Ne.symm Mm.2.2.2.2.1)
  have f23 := OwnA.other W14 f10 Mm.2.2.2.2.2.2.2.2.2.2.1
  have f24 := OwnA.other W14 f11 Mm.2.2.2.2.2.2.2.2.2.1
  have f26 := OwnA.other W14 f13 (Ne.symm Mm.2.2.2.2.2.2.2.2.2.2.2.2.2)
  have N14 := Fr.snoc X14 N1 gd
  have sz14 : n0 ≤ h14.size := by rw [W14.size]; exact sz1
  show OwnG p e below s _ _ _ (T14.setTop (mkF m 208 _ []))
  refine own_by (fun _ K => XS.aload X14.here hx rfl (hb hby at_208) rfl rfl K) ?_
  show OwnG p e below s _ _ _ (T14.setTop (mkF m 210 _ [(.ref cc)]))
  refine own_by (fun _ K => XS.iconst X14.here hx rfl (hb hby at_210) K) ?_
  show OwnG p e below s _ _ _ (T14.setTop (mkF m 211 _ [(.int 0), (.ref cc)]))
  refine own_by (fun _ K => XS.aload X14.here hx rfl (hb hby at_211) rfl rfl K) ?_
  show OwnG p e below s _ _ _ (T14.setTop (mkF m 213 _ [(.ref ob), (.int 0), (.ref cc)]))
  refine own_by (fun _ K => XS.iconst X14.here hx rfl (hb hby at_213) K) ?_
  show OwnG p e below s _ _ _ (T14.setTop (mkF m 214 _ [(.int 0), (.ref ob), (.int 0), (.ref cc)]))
  obtain ⟨cq27, kq27, q27a, q27b, q27c⟩ := isOf hZ e14 f15
  obtain ⟨_, _, ⟨T27, L27, k27, n27⟩, -, X27, ⟨Lc27, hQ27, l27, y27, z27⟩, st27⟩ := X14.virtualBack hx (y := (⟨"com/example/etsinta/etsinta/search/Best", "score", "(I)D"⟩ : MethodName)) (z := (⟨"com/example/etsinta/etsinta/search/Best", "score", "(I)D"⟩ : MethodName)) hown (mvT hZ (own_w hw 64 rfl)) (mvT hZ (own_w hw 65 rfl)) (notFace_of_selects (args := #[]) (mvT hZ (own_w hw 67 rfl))) (mvT hZ (own_w hw 67 rfl)) (mvT hZ (own_w hw 66 rfl)) (by decide) (backOf (W := 2) (rm13 l Z a0 hw [] ob sa da pa (2 : Int32) fd fs fp (0 : Int32) 0 (FP.i2d (sv r0)) h14 n0 sz14 ⟨f15, f16, f17, f18, f19, f20, f21, f22, f23⟩ ⟨by decide, rfl, by decide⟩ (by decide) t0.2.1) hZ (own_w hw 68 rfl) (own_w hw 5 rfl) (by decide) (by decide)) q27a q27c (g := (mkF m 214 #[.val (.int cnt), .val (.int sb), .val (.int pb), .val (.int 2), .val (.ref ss), .val (.ref pa), .val (.ref dd), .val (.ref cc), .val (.ref ob), .unset, .unset] [(.int 0), (.ref ob), (.int 0), (.ref cc)])) rfl (by rw [hml]; rfl) (Steps.refl _) (argsL := [(.int 0)]) (rest := [(.int 0), (.ref cc)]) (lenOf pd_10 rfl) rfl (by show 2 * 0 + _ ≤ _; exact Nat.le_of_eq rfl) (hb hby at_214) (fun _ _ => ⟨rfl, e14, (by decide : 0 + 1 + 1 + 1 + 1 + 1 + 2 + 0 ≤ _), (by decide : 0 + 4 + 4 + 4 + 4 + 5 + 32 + 0 ≤ _)⟩)
  dsimp only [Pt.U, Pt.locs, Pt.cells, Pt.slots] at X27 l27 y27 z27 st27 hQ27
  subst l27 y27 z27
  refine own_by (fun _ K => st27.trans K) ?_
  obtain ⟨rfl, N27q, hh27⟩ := hQ27
  have N27 := Fr.app N14 N27q
  have f28 := f15
  rw [← hh27] at f28
  have f29 := f16
  rw [← hh27] at f29
  have f30 := f17
  rw [← hh27] at f30
  have f31 := f18
  rw [← hh27] at f31
  have f32 := f19
  rw [← hh27] at f32
  have f33 := f20
  rw [← hh27] at f33
  have f34 := f21
  rw [← hh27] at f34
  have f35 := f22
  rw [← hh27] at f35
  have f36 := f23
  rw [← hh27] at f36
  have f37 := f24
  rw [← hh27] at f37
  have f38 := A14
  rw [← hh27] at f38
  have f39 := f26
  rw [← hh27] at f39
  have sz27 : n0 ≤ T27.heap.size := by rw [hh27]; exact sz14
  show OwnG p e below s _ _ _ (T27.setTop (mkF m 217 _ [(.double (FP.i2d (sv r0))), (.int 0), (.ref cc)]))
  obtain ⟨T40, h40, X40, e40, W40, A40, st40⟩ := own_stD X27 hx hZ (rfl : T27.heap = T27.heap) f39 (j := (0 : Int32)) (i := 0) ⟨by decide, rfl, by decide⟩ (g := (mkF m 217 #[.val (.int cnt), .val (.int sb), .val (.int pb), .val (.int 2), .val (.ref ss), .val (.ref pa), .val (.ref dd), .val (.ref cc), .val (.ref ob), .unset, .unset] [(.double (FP.i2d (sv r0))), (.int 0), (.ref cc)])) rfl rfl (hb hby at_217)
  refine own_by (fun _ K => st40 _ K) ?_
  have f41 := Exa.wr W40 f28
  have f42 := Fld.other W40 f29 (Or.inl (Ne.symm Mm.2.2.2.2.2.2.1))
  have f43 := Fld.other W40 f30 (Or.inl (Ne.symm Mm.2.2.2.2.2.2.1))
  have f44 := Fld.other W40 f31 (Or.inl (Ne.symm Mm.2.2.2.2.2.2.1))
  have f45 := Fld.other W40 f32 (Or.inl (Ne.symm Mm.2.2.2.2.2.2.1))
  have f46 := Fld.other W40 f33 (Or.inl (Ne.symm Mm.2.2.2.2.2.2.1))
  have f47 := OwnA.other W40 f34 (Ne.symm Mm.2.2.2.2.2.2.2.2.1)
  have f48 := OwnA.other W40 f35 (Ne.symm Mm.2.2.2.2.2.2.2.1)
  have f49 := OwnA.other W40 f36 Mm.2.2.2.2.2.2.2.2.2.2.2.2.1
  have f50 := OwnA.other W40 f37 Mm.2.2.2.2.2.2.2.2.2.2.2.1
  have f51 := OwnA.other W40 f38 Mm.2.2.2.2.2.2.2.2.2.2.2.2.2
  have N40 := Fr.snoc X40 N27 gc
  have sz40 : n0 ≤ h40.size := by rw [W40.size]; exact sz27
  show OwnG p e below s _ _ _ (T40.setTop (mkF m 218 _ []))
  refine own_by (fun _ K => XS.iloadN X40.here hx rfl (hb hby at_218) rfl K) ?_
  show OwnG p e below s _ _ _ (T40.setTop (mkF m 219 _ [(.int 2)]))
  refine own_by (fun _ K => XS.iconst X40.here hx rfl (hb hby at_219) K) ?_
  show OwnG p e below s _ _ _ (T40.setTop (mkF m 220 _ [(.int 1), (.int 2)]))
  refine own_by (fun _ K => XS.icmpNo X40.here hx rfl (hb hby at_220) rfl (tlt (by decide)).2.2.2 K) ?_
  show OwnG p e below s _ _ _ (T40.setTop (mkF m 223 _ []))
  refine own_by (fun _ K => XS.aload X40.here hx rfl (hb hby at_223) rfl rfl K) ?_
  show OwnG p e below s _ _ _ (T40.setTop (mkF m 225 _ [(.ref dd)]))
  refine own_by (fun _ K => XS.iconst X40.here hx rfl (hb hby at_225) K) ?_
  show OwnG p e below s _ _ _ (T40.setTop (mkF m 226 _ [(.int 1), (.ref dd)]))
  refine own_by (fun _ K => XS.aload X40.here hx rfl (hb hby at_226) rfl rfl K) ?_
  show OwnG p e below s _ _ _ (T40.setTop (mkF m 228 _ [(.ref ob), (.int 1), (.ref dd)]))
  refine own_by (fun _ K => XS.iconst X40.here hx rfl (hb hby at_228) K) ?_
  show OwnG p e below s _ _ _ (T40.setTop (mkF m 229 _ [(.int 1), (.ref ob), (.int 1), (.ref dd)]))
  obtain ⟨cq53, kq53, q53a, q53b, q53c⟩ := isOf hZ e40 f41
  obtain ⟨_, _, ⟨T53, L53, k53, n53⟩, -, X53, ⟨Lc53, hQ53, l53, y53, z53⟩, st53⟩ := X40.virtualBack hx (y := (⟨"com/example/etsinta/etsinta/search/Best", "document", "(I)I"⟩ : MethodName)) (z := (⟨"com/example/etsinta/etsinta/search/Best", "document", "(I)I"⟩ : MethodName)) hown (mvT hZ (own_w hw 51 rfl)) (mvT hZ (own_w hw 52 rfl)) (notFace_of_selects (args := #[]) (mvT hZ (own_w hw 54 rfl))) (mvT hZ (own_w hw 54 rfl)) (mvT hZ (own_w hw 53 rfl)) (by decide) (backOf (W := 2) (rm10 l Z a0 hw [] ob sa da pa (2 : Int32) fd fs fp (1 : Int32) 1 r1 h40 n0 sz40 ⟨f41, f42, f43, f44, f45, f46, f47, f48, f49⟩ ⟨by decide, rfl, by decide⟩ (by decide) t1.1) hZ (own_w hw 55 rfl) (own_w hw 5 rfl) (by decide) (by decide)) q53a q53c (g := (mkF m 229 #[.val (.int cnt), .val (.int sb), .val (.int pb), .val (.int 2), .val (.ref ss), .val (.ref pa), .val (.ref dd), .val (.ref cc), .val (.ref ob), .unset, .unset] [(.int 1), (.ref ob), (.int 1), (.ref dd)])) rfl (by rw [hml]; rfl) (Steps.refl _) (argsL := [(.int 1)]) (rest := [(.int 1), (.ref dd)]) (lenOf pd_9 rfl) rfl (by show 2 * 0 + _ ≤ _; exact Nat.le_of_eq rfl) (hb hby at_229) (fun _ _ => ⟨rfl, e40, (by decide : 0 + 1 + 1 + 1 + 1 + 1 + 2 + 0 ≤ _), (by decide : 0 + 4 + 4 + 4 + 4 + 5 + 32 + 0 ≤ _)⟩)
  dsimp only [Pt.U, Pt.locs, Pt.cells, Pt.slots] at X53 l53 y53 z53 st53 hQ53
  subst l53 y53 z53
  refine own_by (fun _ K => st53.trans K) ?_
  obtain ⟨rfl, N53q, hh53⟩ := hQ53
  have N53 := Fr.app N40 N53q
  have f54 := f41
  rw [← hh53] at f54
  have f55 := f42
  rw [← hh53] at f55
  have f56 := f43
  rw [← hh53] at f56
  have f57 := f44
  rw [← hh53] at f57
  have f58 := f45
  rw [← hh53] at f58
  have f59 := f46
  rw [← hh53] at f59
  have f60 := f47
  rw [← hh53] at f60
  have f61 := f48
  rw [← hh53] at f61
  have f62 := f49
  rw [← hh53] at f62
  have f63 := f50
  rw [← hh53] at f63
  have f64 := f51
  rw [← hh53] at f64
  have f65 := A40
  rw [← hh53] at f65
  have sz53 : n0 ≤ T53.heap.size := by rw [hh53]; exact sz40
  show OwnG p e below s _ _ _ (T53.setTop (mkF m 232 _ [(.int r1), (.int 1), (.ref dd)]))
  obtain ⟨T66, h66, X66, e66, W66, A66, st66⟩ := own_stI X53 hx hZ (rfl : T53.heap = T53.heap) f64 (j := (1 : Int32)) (i := 1) ⟨by decide, rfl, by decide⟩ (g := (mkF m 232 #[.val (.int cnt), .val (.int sb), .val (.int pb), .val (.int 2), .val (.ref ss), .val (.ref pa), .val (.ref dd), .val (.ref cc), .val (.ref ob), .unset, .unset] [(.int r1), (.int 1), (.ref dd)])) rfl rfl (hb hby at_232)
  refine own_by (fun _ K => st66 _ K) ?_
  have f67 := Exa.wr W66 f54
  have f68 := Fld.other W66 f55 (Or.inl (Ne.symm Mm.2.2.2.1))
  have f69 := Fld.other W66 f56 (Or.inl (Ne.symm Mm.2.2.2.1))
  have f70 := Fld.other W66 f57 (Or.inl (Ne.symm Mm.2.2.2.1))
  have f71 := Fld.other W66 f58 (Or.inl (Ne.symm Mm.2.2.2.1))
  have f72 := Fld.other W66 f59 (Or.inl (Ne.symm Mm.2.2.2.1))
  have f73 := OwnA.other W66 f60 (Ne.symm Mm.2.2.2.2.2.1)
  have f74 := OwnA.other W66 f61 (Ne.symm Mm.2.2.2.2.1)
  have f75 := OwnA.other W66 f62 Mm.2.2.2.2.2.2.2.2.2.2.1
  have f76 := OwnA.other W66 f63 Mm.2.2.2.2.2.2.2.2.2.1
  have f78 := OwnA.other W66 f65 (Ne.symm Mm.2.2.2.2.2.2.2.2.2.2.2.2.2)
  have N66 := Fr.snoc X66 N53 gd
  have sz66 : n0 ≤ h66.size := by rw [W66.size]; exact sz53
  show OwnG p e below s _ _ _ (T66.setTop (mkF m 233 _ []))
  refine own_by (fun _ K => XS.aload X66.here hx rfl (hb hby at_233) rfl rfl K) ?_
  show OwnG p e below s _ _ _ (T66.setTop (mkF m 235 _ [(.ref cc)]))
  refine own_by (fun _ K => XS.iconst X66.here hx rfl (hb hby at_235) K) ?_
  show OwnG p e below s _ _ _ (T66.setTop (mkF m 236 _ [(.int 1), (.ref cc)]))
  refine own_by (fun _ K => XS.aload X66.here hx rfl (hb hby at_236) rfl rfl K) ?_
  show OwnG p e below s _ _ _ (T66.setTop (mkF m 238 _ [(.ref ob), (.int 1), (.ref cc)]))
  refine own_by (fun _ K => XS.iconst X66.here hx rfl (hb hby at_238) K) ?_
  show OwnG p e below s _ _ _ (T66.setTop (mkF m 239 _ [(.int 1), (.ref ob), (.int 1), (.ref cc)]))
  obtain ⟨cq79, kq79, q79a, q79b, q79c⟩ := isOf hZ e66 f67
  obtain ⟨_, _, ⟨T79, L79, k79, n79⟩, -, X79, ⟨Lc79, hQ79, l79, y79, z79⟩, st79⟩ := X66.virtualBack hx (y := (⟨"com/example/etsinta/etsinta/search/Best", "score", "(I)D"⟩ : MethodName)) (z := (⟨"com/example/etsinta/etsinta/search/Best", "score", "(I)D"⟩ : MethodName)) hown (mvT hZ (own_w hw 64 rfl)) (mvT hZ (own_w hw 65 rfl)) (notFace_of_selects (args := #[]) (mvT hZ (own_w hw 67 rfl))) (mvT hZ (own_w hw 67 rfl)) (mvT hZ (own_w hw 66 rfl)) (by decide) (backOf (W := 2) (rm13 l Z a0 hw [] ob sa da pa (2 : Int32) fd fs fp (1 : Int32) 1 (FP.i2d (sv r1)) h66 n0 sz66 ⟨f67, f68, f69, f70, f71, f72, f73, f74, f75⟩ ⟨by decide, rfl, by decide⟩ (by decide) t1.2.1) hZ (own_w hw 68 rfl) (own_w hw 5 rfl) (by decide) (by decide)) q79a q79c (g := (mkF m 239 #[.val (.int cnt), .val (.int sb), .val (.int pb), .val (.int 2), .val (.ref ss), .val (.ref pa), .val (.ref dd), .val (.ref cc), .val (.ref ob), .unset, .unset] [(.int 1), (.ref ob), (.int 1), (.ref cc)])) rfl (by rw [hml]; rfl) (Steps.refl _) (argsL := [(.int 1)]) (rest := [(.int 1), (.ref cc)]) (lenOf pd_10 rfl) rfl (by show 2 * 0 + _ ≤ _; exact Nat.le_of_eq rfl) (hb hby at_239) (fun _ _ => ⟨rfl, e66, (by decide : 0 + 1 + 1 + 1 + 1 + 1 + 2 + 0 ≤ _), (by decide : 0 + 4 + 4 + 4 + 4 + 5 + 32 + 0 ≤ _)⟩)
  dsimp only [Pt.U, Pt.locs, Pt.cells, Pt.slots] at X79 l79 y79 z79 st79 hQ79
  subst l79 y79 z79
  refine own_by (fun _ K => st79.trans K) ?_
  obtain ⟨rfl, N79q, hh79⟩ := hQ79
  have N79 := Fr.app N66 N79q
  have f80 := f67
  rw [← hh79] at f80
  have f81 := f68
  rw [← hh79] at f81
  have f82 := f69
  rw [← hh79] at f82
  have f83 := f70
  rw [← hh79] at f83
  have f84 := f71
  rw [← hh79] at f84
  have f85 := f72
  rw [← hh79] at f85
  have f86 := f73
  rw [← hh79] at f86
  have f87 := f74
  rw [← hh79] at f87
  have f88 := f75
  rw [← hh79] at f88
  have f89 := f76
  rw [← hh79] at f89
  have f90 := A66
  rw [← hh79] at f90
  have f91 := f78
  rw [← hh79] at f91
  have sz79 : n0 ≤ T79.heap.size := by rw [hh79]; exact sz66
  show OwnG p e below s _ _ _ (T79.setTop (mkF m 242 _ [(.double (FP.i2d (sv r1))), (.int 1), (.ref cc)]))
  obtain ⟨T92, h92, X92, e92, W92, A92, st92⟩ := own_stD X79 hx hZ (rfl : T79.heap = T79.heap) f91 (j := (1 : Int32)) (i := 1) ⟨by decide, rfl, by decide⟩ (g := (mkF m 242 #[.val (.int cnt), .val (.int sb), .val (.int pb), .val (.int 2), .val (.ref ss), .val (.ref pa), .val (.ref dd), .val (.ref cc), .val (.ref ob), .unset, .unset] [(.double (FP.i2d (sv r1))), (.int 1), (.ref cc)])) rfl rfl (hb hby at_242)
  refine own_by (fun _ K => st92 _ K) ?_
  have f93 := Exa.wr W92 f80
  have f94 := Fld.other W92 f81 (Or.inl (Ne.symm Mm.2.2.2.2.2.2.1))
  have f95 := Fld.other W92 f82 (Or.inl (Ne.symm Mm.2.2.2.2.2.2.1))
  have f96 := Fld.other W92 f83 (Or.inl (Ne.symm Mm.2.2.2.2.2.2.1))
  have f97 := Fld.other W92 f84 (Or.inl (Ne.symm Mm.2.2.2.2.2.2.1))
  have f98 := Fld.other W92 f85 (Or.inl (Ne.symm Mm.2.2.2.2.2.2.1))
  have f99 := OwnA.other W92 f86 (Ne.symm Mm.2.2.2.2.2.2.2.2.1)
  have f100 := OwnA.other W92 f87 (Ne.symm Mm.2.2.2.2.2.2.2.1)
  have f101 := OwnA.other W92 f88 Mm.2.2.2.2.2.2.2.2.2.2.2.2.1
  have f102 := OwnA.other W92 f89 Mm.2.2.2.2.2.2.2.2.2.2.2.1
  have f103 := OwnA.other W92 f90 Mm.2.2.2.2.2.2.2.2.2.2.2.2.2
  have N92 := Fr.snoc X92 N79 gc
  have sz92 : n0 ≤ h92.size := by rw [W92.size]; exact sz79
  show OwnG p e below s _ _ _ (T92.setTop (mkF m 243 _ []))
  refine own_by (fun _ K => XS.iloadN X92.here hx rfl (hb hby at_243) rfl K) ?_
  show OwnG p e below s _ _ _ (T92.setTop (mkF m 244 _ [(.int 2)]))
  refine own_by (fun _ K => XS.iconst X92.here hx rfl (hb hby at_244) K) ?_
  show OwnG p e below s _ _ _ (T92.setTop (mkF m 245 _ [(.int 2), (.int 2)]))
  refine own_by (fun _ K => XS.icmpYes X92.here hx rfl (pc0 := 245) (pc' := 268) rfl (hb hby at_245) rfl (flt (by decide)).2.2.2 (by decide) (by decide) K) ?_
  show OwnG p e below s _ _ _ (T92.setTop (mkF m 268 _ []))
  refine own_by (fun _ K => XS.iloadN X92.here hx rfl (hb hby at_268) rfl K) ?_
  show OwnG p e below s _ _ _ (T92.setTop (mkF m 269 _ [(.int 2)]))
  refine own_by (fun _ K => XS.iconst X92.here hx rfl (hb hby at_269) K) ?_
  show OwnG p e below s _ _ _ (T92.setTop (mkF m 270 _ [(.int 3), (.int 2)]))
  refine own_by (fun _ K => XS.icmpYes X92.here hx rfl (pc0 := 270) (pc' := 293) rfl (hb hby at_270) rfl (flt (by decide)).2.2.2 (by decide) (by decide) K) ?_
  show OwnG p e below s _ _ _ (T92.setTop (mkF m 293 _ []))
  exact own_e2 cnt sb pb 0 sv pl ob pa ss dd cc fp fss (ownSet (ownSet (fun _ => (defaultValue .int)) 0 (.int r0)) 1 (.int r1)) (ownSet (ownSet (fun _ => (defaultValue .double)) 0 (.double (FP.i2d (sv r0)))) 1 (.double (FP.i2d (sv r1)))) r0 r1 X92 hx hby hml hret hlk hown hnm hZ hw e92 N92 sz92 f101 f102 f103 A92 hP hss t0.2.2 t1.2.2 ((own_sn (by decide)).trans own_sh) own_sh ((own_sn (by decide)).trans own_sh) own_sh hb0 hb1 ho0 hm
set_option maxRecDepth 65536 in
set_option maxHeartbeats 40000000 in
theorem own_n2 {p : Program} {l : Launch} {e : Env} {s : State} {m : MethodId} {args : Array Value} {below : List Frame} {meth : Method} {c : Code} {T0 : State} {locs : List Loc} {Z : State} {a0 : Array Value} {h0 : Heap} {n0 : Nat} (cnt sb pb : Int32) (sv pl : Int32 → Int32) (ob sa da pa ss dd cc : Addr) (fd fs fp fss : Nat → Value) (X0 : Stand p l e room_1 s m args below meth c T0 locs (0 + 1 + 1 + 1 + 1 + 1 + 2) (0 + 4 + 4 + 4 + 4 + 5 + 32)) (hx : p.tables.exec = Jvm.exec) (hby : c.code = code) (hml : c.maxLocals = 11) (hret : meth.sig.returnType = some .boolean) (hlk : meth.locks = false) (hown : s.vm.findClass "com/example/etsinta/etsinta/search/BestRankPinLaw" = some m.cls) (hnm : meth.name = "law") (hZ : Z.Warmed39 s.vm) (hw : ∀ d ∈ tables_1, d.before a0 Z = true) (e0 : T0.heap = h0) (N0 : Fr n0 locs) (Z0 : n0 ≤ h0.size) (Sb : own_S Z h0 ob sa da pa (0 : Int32) fd fs fp) (Nn : own_N n0 ob sa da pa) (Mm : own_M ob sa da pa ss dd cc) (hP : own_P pl fp) (hss : ∀ d, own_ok d → fss d.toNatClampNeg = .double (FP.i2d (sv d))) (As : OwnA Z h0 ss .double 4 fss) (Ad : OwnA Z h0 dd .int 4 (fun _ => (defaultValue .int))) (Ac : OwnA Z h0 cc .double 4 (fun _ => (defaultValue .double))) (gd : n0 ≤ dd) (gc : n0 ≤ cc) :
    OwnG p e below s (fun v h L => v = some (.int 1) ∧ Fr n0 L) room_1.cells room_1.slots (T0.setTop (mkF m 119 #[.val (.int cnt), .val (.int sb), .val (.int pb), .val (.int 2), .val (.ref ss), .val (.ref pa), .val (.ref dd), .val (.ref cc), .val (.ref ob), .unset, .unset] [])) := by
  show OwnG p e below s _ _ _ (T0.setTop (mkF m 119 #[.val (.int cnt), .val (.int sb), .val (.int pb), .val (.int 2), .val (.ref ss), .val (.ref pa), .val (.ref dd), .val (.ref cc), .val (.ref ob), .unset, .unset] []))
  refine own_by (fun _ K => XS.iloadN X0.here hx rfl (hb hby at_119) rfl K) ?_
  show OwnG p e below s _ _ _ (T0.setTop (mkF m 120 _ [(.int 2)]))
  refine own_by (fun _ K => XS.ifNo X0.here hx rfl (hb hby at_120) rfl ((if0 _ _).trans (tlt (by decide)).2.2.2) K) ?_
  show OwnG p e below s _ _ _ (T0.setTop (mkF m 123 _ []))
  refine own_by (fun _ K => XS.aload X0.here hx rfl (hb hby at_123) rfl rfl K) ?_
  show OwnG p e below s _ _ _ (T0.setTop (mkF m 125 _ [(.ref ob)]))
  refine own_by (fun _ K => XS.iconst X0.here hx rfl (hb hby at_125) K) ?_
  show OwnG p e below s _ _ _ (T0.setTop (mkF m 126 _ [(.int 0), (.ref ob)]))
  refine own_by (fun _ K => XS.aload X0.here hx rfl (hb hby at_126) rfl rfl K) ?_
  show OwnG p e below s _ _ _ (T0.setTop (mkF m 128 _ [(.ref ss), (.int 0), (.ref ob)]))
  refine own_by (fun _ K => XS.iconst X0.here hx rfl (hb hby at_128) K) ?_
  show OwnG p e below s _ _ _ (T0.setTop (mkF m 129 _ [(.int 0), (.ref ss), (.int 0), (.ref ob)]))
  refine own_by (fun _ K => own_ldD X0 hx hZ e0 As (j := (0 : Int32)) (i := 0) ⟨by decide, rfl, by decide⟩ (v := (.double (FP.i2d (sv (0 : Int32))))) (hss (0 : Int32) (Or.inl rfl)) (g := (mkF m 129 #[.val (.int cnt), .val (.int sb), .val (.int pb), .val (.int 2), .val (.ref ss), .val (.ref pa), .val (.ref dd), .val (.ref cc), .val (.ref ob), .unset, .unset] [(.int 0), (.ref ss), (.int 0), (.ref ob)])) rfl rfl (hb hby at_129) _ K) ?_
  show OwnG p e below s _ _ _ (T0.setTop (mkF m 130 _ [(.double (FP.i2d (sv (0 : Int32)))), (.int 0), (.ref ob)]))
  obtain ⟨cq1, kq1, q1a, q1b, q1c⟩ := isOf hZ e0 Sb.1
  obtain ⟨_, _, ⟨T1, L1, k1, n1⟩, -, X1, ⟨Lc1, hQ1, l1, y1, z1⟩, st1⟩ := X0.virtualBack hx (y := (⟨"com/example/etsinta/etsinta/search/Best", "offer", "(ID)V"⟩ : MethodName)) (z := (⟨"com/example/etsinta/etsinta/search/Best", "offer", "(ID)V"⟩ : MethodName)) hown (mvT hZ (own_w hw 42 rfl)) (mvT hZ (own_w hw 43 rfl)) (notFace_of_selects (args := #[]) (mvT hZ (own_w hw 45 rfl))) (mvT hZ (own_w hw 45 rfl)) (mvT hZ (own_w hw 44 rfl)) (by decide) (backOf (W := 0) (rm8o0 l Z a0 hw [] sv pl ob sa da pa fd fs fp (0 : Int32) h0 n0 Z0 ⟨Sb.1, Sb.2.1, Sb.2.2.1, Sb.2.2.2.1, Sb.2.2.2.2.1, Sb.2.2.2.2.2.1, Sb.2.2.2.2.2.2.1, Sb.2.2.2.2.2.2.2.1, Sb.2.2.2.2.2.2.2.2⟩ Nn hP  (Or.inl rfl)) hZ (own_w hw 46 rfl) (own_w hw 5 rfl) (by decide) (by decide)) q1a q1c (g := (mkF m 130 #[.val (.int cnt), .val (.int sb), .val (.int pb), .val (.int 2), .val (.ref ss), .val (.ref pa), .val (.ref dd), .val (.ref cc), .val (.ref ob), .unset, .unset] [(.double (FP.i2d (sv (0 : Int32)))), (.int 0), (.ref ob)])) rfl (by rw [hml]; rfl) (Steps.refl _) (argsL := [(.int 0), (.double (FP.i2d (sv (0 : Int32))))]) (rest := []) (lenOf pd_2 rfl) rfl (by show 2 * 0 + _ ≤ _; exact Nat.le_of_eq rfl) (hb hby at_130) (fun _ _ => ⟨rfl, e0, (by decide : 0 + 1 + 1 + 1 + 1 + 1 + 2 + 0 ≤ _), (by decide : 0 + 4 + 4 + 4 + 4 + 5 + 32 + 0 ≤ _)⟩)
  dsimp only [Pt.U, Pt.locs, Pt.cells, Pt.slots] at X1 l1 y1 z1 st1 hQ1
  subst l1 y1 z1
  refine own_by (fun _ K => st1.trans K) ?_
  obtain ⟨rfl, N1q, K1, fd1, fs1, r1_0, S1, t1_0, hU1⟩ := hQ1
  have N1 := Fr.app N0 N1q
  have sz1 : n0 ≤ T1.heap.size := Nat.le_trans Z0 K1.1
  have f2 := Exa.keep Sb.1 K1
  have f3 := OwnA.keep As K1 (ninS Mm.1 (ninS Mm.2.1 (ninS Mm.2.2.1 nin0)))
  have f4 := OwnA.keep Ad K1 (ninS Mm.2.2.2.1 (ninS Mm.2.2.2.2.1 (ninS Mm.2.2.2.2.2.1 nin0)))
  have f5 := OwnA.keep Ac K1 (ninS Mm.2.2.2.2.2.2.1 (ninS Mm.2.2.2.2.2.2.2.1 (ninS Mm.2.2.2.2.2.2.2.2.1 nin0)))
  show OwnG p e below s _ _ _ (T1.setTop (mkF m 133 _ []))
  refine own_by (fun _ K => XS.iloadN X1.here hx rfl (hb hby at_133) rfl K) ?_
  show OwnG p e below s _ _ _ (T1.setTop (mkF m 134 _ [(.int 2)]))
  refine own_by (fun _ K => XS.iconst X1.here hx rfl (hb hby at_134) K) ?_
  show OwnG p e below s _ _ _ (T1.setTop (mkF m 135 _ [(.int 1), (.int 2)]))
  refine own_by (fun _ K => XS.icmpNo X1.here hx rfl (hb hby at_135) rfl (tlt (by decide)).2.2.2 K) ?_
  show OwnG p e below s _ _ _ (T1.setTop (mkF m 138 _ []))
  refine own_by (fun _ K => XS.aload X1.here hx rfl (hb hby at_138) rfl rfl K) ?_
  show OwnG p e below s _ _ _ (T1.setTop (mkF m 140 _ [(.ref ob)]))
  refine own_by (fun _ K => XS.iconst X1.here hx rfl (hb hby at_140) K) ?_
  show OwnG p e below s _ _ _ (T1.setTop (mkF m 141 _ [(.int 1), (.ref ob)]))
  refine own_by (fun _ K => XS.aload X1.here hx rfl (hb hby at_141) rfl rfl K) ?_
  show OwnG p e below s _ _ _ (T1.setTop (mkF m 143 _ [(.ref ss), (.int 1), (.ref ob)]))
  refine own_by (fun _ K => XS.iconst X1.here hx rfl (hb hby at_143) K) ?_
  show OwnG p e below s _ _ _ (T1.setTop (mkF m 144 _ [(.int 1), (.ref ss), (.int 1), (.ref ob)]))
  refine own_by (fun _ K => own_ldD X1 hx hZ (rfl : T1.heap = T1.heap) f3 (j := (1 : Int32)) (i := 1) ⟨by decide, rfl, by decide⟩ (v := (.double (FP.i2d (sv (1 : Int32))))) (hss (1 : Int32) (Or.inr (Or.inl rfl))) (g := (mkF m 144 #[.val (.int cnt), .val (.int sb), .val (.int pb), .val (.int 2), .val (.ref ss), .val (.ref pa), .val (.ref dd), .val (.ref cc), .val (.ref ob), .unset, .unset] [(.int 1), (.ref ss), (.int 1), (.ref ob)])) rfl rfl (hb hby at_144) _ K) ?_
  show OwnG p e below s _ _ _ (T1.setTop (mkF m 145 _ [(.double (FP.i2d (sv (1 : Int32)))), (.int 1), (.ref ob)]))
  obtain ⟨cq6, kq6, q6a, q6b, q6c⟩ := isOf hZ (rfl : T1.heap = T1.heap) S1.1
  obtain ⟨_, _, ⟨T6, L6, k6, n6⟩, -, X6, ⟨Lc6, hQ6, l6, y6, z6⟩, st6⟩ := X1.virtualBack hx (y := (⟨"com/example/etsinta/etsinta/search/Best", "offer", "(ID)V"⟩ : MethodName)) (z := (⟨"com/example/etsinta/etsinta/search/Best", "offer", "(ID)V"⟩ : MethodName)) hown (mvT hZ (own_w hw 42 rfl)) (mvT hZ (own_w hw 43 rfl)) (notFace_of_selects (args := #[]) (mvT hZ (own_w hw 45 rfl))) (mvT hZ (own_w hw 45 rfl)) (mvT hZ (own_w hw 44 rfl)) (by decide) (backOf (W := 0) (rm8o1 l Z a0 hw [] sv pl ob sa da pa fd1 fs1 fp r1_0 (1 : Int32) T1.heap n0 sz1 ⟨S1.1, S1.2.1, S1.2.2.1, S1.2.2.2.1, S1.2.2.2.2.1, S1.2.2.2.2.2.1, S1.2.2.2.2.2.2.1, S1.2.2.2.2.2.2.2.1, S1.2.2.2.2.2.2.2.2⟩ Nn hP ⟨t1_0.1, t1_0.2.1, t1_0.2.2⟩ (Or.inr (Or.inl rfl))) hZ (own_w hw 46 rfl) (own_w hw 5 rfl) (by decide) (by decide)) q6a q6c (g := (mkF m 145 #[.val (.int cnt), .val (.int sb), .val (.int pb), .val (.int 2), .val (.ref ss), .val (.ref pa), .val (.ref dd), .val (.ref cc), .val (.ref ob), .unset, .unset] [(.double (FP.i2d (sv (1 : Int32)))), (.int 1), (.ref ob)])) rfl (by rw [hml]; rfl) (Steps.refl _) (argsL := [(.int 1), (.double (FP.i2d (sv (1 : Int32))))]) (rest := []) (lenOf pd_2 rfl) rfl (by show 2 * 0 + _ ≤ _; exact Nat.le_of_eq rfl) (hb hby at_145) (fun _ _ => ⟨rfl, (rfl : T1.heap = T1.heap), (by decide : 0 + 1 + 1 + 1 + 1 + 1 + 2 + 0 ≤ _), (by decide : 0 + 4 + 4 + 4 + 4 + 5 + 32 + 0 ≤ _)⟩)
  dsimp only [Pt.U, Pt.locs, Pt.cells, Pt.slots] at X6 l6 y6 z6 st6 hQ6
  subst l6 y6 z6
  refine own_by (fun _ K => st6.trans K) ?_
  obtain ⟨rfl, N6q, K6, fd6, fs6, r6_0, r6_1, S6, t6_0, t6_1, hU6⟩ := hQ6
  have N6 := Fr.app N1 N6q
  have sz6 : n0 ≤ T6.heap.size := Nat.le_trans sz1 K6.1
  have f7 := Exa.keep S1.1 K6
  have f8 := OwnA.keep f3 K6 (ninS Mm.1 (ninS Mm.2.1 (ninS Mm.2.2.1 nin0)))
  have f9 := OwnA.keep f4 K6 (ninS Mm.2.2.2.1 (ninS Mm.2.2.2.2.1 (ninS Mm.2.2.2.2.2.1 nin0)))
  have f10 := OwnA.keep f5 K6 (ninS Mm.2.2.2.2.2.2.1 (ninS Mm.2.2.2.2.2.2.2.1 (ninS Mm.2.2.2.2.2.2.2.2.1 nin0)))
  show OwnG p e below s _ _ _ (T6.setTop (mkF m 148 _ []))
  refine own_by (fun _ K => XS.iloadN X6.here hx rfl (hb hby at_148) rfl K) ?_
  show OwnG p e below s _ _ _ (T6.setTop (mkF m 149 _ [(.int 2)]))
  refine own_by (fun _ K => XS.iconst X6.here hx rfl (hb hby at_149) K) ?_
  show OwnG p e below s _ _ _ (T6.setTop (mkF m 150 _ [(.int 2), (.int 2)]))
  refine own_by (fun _ K => XS.icmpYes X6.here hx rfl (pc0 := 150) (pc' := 163) rfl (hb hby at_150) rfl (flt (by decide)).2.2.2 (by decide) (by decide) K) ?_
  show OwnG p e below s _ _ _ (T6.setTop (mkF m 163 _ []))
  refine own_by (fun _ K => XS.iloadN X6.here hx rfl (hb hby at_163) rfl K) ?_
  show OwnG p e below s _ _ _ (T6.setTop (mkF m 164 _ [(.int 2)]))
  refine own_by (fun _ K => XS.iconst X6.here hx rfl (hb hby at_164) K) ?_
  show OwnG p e below s _ _ _ (T6.setTop (mkF m 165 _ [(.int 3), (.int 2)]))
  refine own_by (fun _ K => XS.icmpYes X6.here hx rfl (pc0 := 165) (pc' := 178) rfl (hb hby at_165) rfl (flt (by decide)).2.2.2 (by decide) (by decide) K) ?_
  show OwnG p e below s _ _ _ (T6.setTop (mkF m 178 _ []))
  refine own_by (fun _ K => XS.aload X6.here hx rfl (hb hby at_178) rfl rfl K) ?_
  show OwnG p e below s _ _ _ (T6.setTop (mkF m 180 _ [(.ref ob)]))
  obtain ⟨cq11, kq11, q11a, q11b, q11c⟩ := isOf hZ (rfl : T6.heap = T6.heap) S6.1
  obtain ⟨_, _, ⟨T11, L11, k11, n11⟩, -, X11, ⟨Lc11, hQ11, l11, y11, z11⟩, st11⟩ := X6.virtualBack hx (y := (⟨"com/example/etsinta/etsinta/search/Best", "rank", "()V"⟩ : MethodName)) (z := (⟨"com/example/etsinta/etsinta/search/Best", "rank", "()V"⟩ : MethodName)) hown (mvT hZ (own_w hw 20 rfl)) (mvT hZ (own_w hw 21 rfl)) (notFace_of_selects (args := #[]) (mvT hZ (own_w hw 23 rfl))) (mvT hZ (own_w hw 23 rfl)) (mvT hZ (own_w hw 22 rfl)) (by decide) (backOf (W := 0) (rm3k2 l Z a0 hw [] sv pl ob sa da pa fd6 fs6 fp r6_0 r6_1 T6.heap n0 sz6 ⟨S6.1, S6.2.1, S6.2.2.1, S6.2.2.2.1, S6.2.2.2.2.1, S6.2.2.2.2.2.1, S6.2.2.2.2.2.2.1, S6.2.2.2.2.2.2.2.1, S6.2.2.2.2.2.2.2.2⟩ Nn hP ⟨t6_0.1, t6_0.2.1, t6_0.2.2⟩ ⟨t6_1.1, t6_1.2.1, t6_1.2.2⟩) hZ (own_w hw 24 rfl) (own_w hw 5 rfl) (by decide) (by decide)) q11a q11c (g := (mkF m 180 #[.val (.int cnt), .val (.int sb), .val (.int pb), .val (.int 2), .val (.ref ss), .val (.ref pa), .val (.ref dd), .val (.ref cc), .val (.ref ob), .unset, .unset] [(.ref ob)])) rfl (by rw [hml]; rfl) (Steps.refl _) (argsL := []) (rest := []) (lenOf pd_6 rfl) rfl (by show 2 * 0 + _ ≤ _; exact Nat.le_of_eq rfl) (hb hby at_180) (fun _ _ => ⟨rfl, (rfl : T6.heap = T6.heap), (by decide : 0 + 1 + 1 + 1 + 1 + 1 + 2 + 0 ≤ _), (by decide : 0 + 4 + 4 + 4 + 4 + 5 + 32 + 0 ≤ _)⟩)
  dsimp only [Pt.U, Pt.locs, Pt.cells, Pt.slots] at X11 l11 y11 z11 st11 hQ11
  subst l11 y11 z11
  refine own_by (fun _ K => st11.trans K) ?_
  obtain ⟨rfl, N11q, K11, fd11, fs11, r11_0, r11_1, S11, t11_0, t11_1, hR11⟩ := hQ11
  have N11 := Fr.app N6 N11q
  have sz11 : n0 ≤ T11.heap.size := Nat.le_trans sz6 K11.1
  have f12 := Exa.keep S6.1 K11
  have f13 := OwnA.keep f8 K11 (ninS Mm.1 (ninS Mm.2.1 (ninS Mm.2.2.1 nin0)))
  have f14 := OwnA.keep f9 K11 (ninS Mm.2.2.2.1 (ninS Mm.2.2.2.2.1 (ninS Mm.2.2.2.2.2.1 nin0)))
  have f15 := OwnA.keep f10 K11 (ninS Mm.2.2.2.2.2.2.1 (ninS Mm.2.2.2.2.2.2.2.1 (ninS Mm.2.2.2.2.2.2.2.2.1 nin0)))
  show OwnG p e below s _ _ _ (T11.setTop (mkF m 183 _ []))
  refine own_by (fun _ K => XS.aload X11.here hx rfl (hb hby at_183) rfl rfl K) ?_
  show OwnG p e below s _ _ _ (T11.setTop (mkF m 185 _ [(.ref ob)]))
  obtain ⟨cq16, kq16, q16a, q16b, q16c⟩ := isOf hZ (rfl : T11.heap = T11.heap) S11.1
  obtain ⟨_, _, ⟨T16, L16, k16, n16⟩, -, X16, ⟨Lc16, hQ16, l16, y16, z16⟩, st16⟩ := X11.virtualBack hx (y := (⟨"com/example/etsinta/etsinta/search/Best", "size", "()I"⟩ : MethodName)) (z := (⟨"com/example/etsinta/etsinta/search/Best", "size", "()I"⟩ : MethodName)) hown (mvT hZ (own_w hw 27 rfl)) (mvT hZ (own_w hw 28 rfl)) (notFace_of_selects (args := #[]) (mvT hZ (own_w hw 30 rfl))) (mvT hZ (own_w hw 30 rfl)) (mvT hZ (own_w hw 29 rfl)) (by decide) (backOf (W := 0) (rm4 l Z a0 hw [] ob sa da pa (2 : Int32) fd11 fs11 fp T11.heap n0 sz11 ⟨S11.1, S11.2.1, S11.2.2.1, S11.2.2.2.1, S11.2.2.2.2.1, S11.2.2.2.2.2.1, S11.2.2.2.2.2.2.1, S11.2.2.2.2.2.2.2.1, S11.2.2.2.2.2.2.2.2⟩) hZ (own_w hw 31 rfl) (own_w hw 5 rfl) (by decide) (by decide)) q16a q16c (g := (mkF m 185 #[.val (.int cnt), .val (.int sb), .val (.int pb), .val (.int 2), .val (.ref ss), .val (.ref pa), .val (.ref dd), .val (.ref cc), .val (.ref ob), .unset, .unset] [(.ref ob)])) rfl (by rw [hml]; rfl) (Steps.refl _) (argsL := []) (rest := []) (lenOf pd_8 rfl) rfl (by show 2 * 0 + _ ≤ _; exact Nat.le_of_eq rfl) (hb hby at_185) (fun _ _ => ⟨rfl, (rfl : T11.heap = T11.heap), (by decide : 0 + 1 + 1 + 1 + 1 + 1 + 2 + 0 ≤ _), (by decide : 0 + 4 + 4 + 4 + 4 + 5 + 32 + 0 ≤ _)⟩)
  dsimp only [Pt.U, Pt.locs, Pt.cells, Pt.slots] at X16 l16 y16 z16 st16 hQ16
  subst l16 y16 z16
  refine own_by (fun _ K => st16.trans K) ?_
  obtain ⟨rfl, N16q, hh16⟩ := hQ16
  have N16 := Fr.app N11 N16q
  have f17 := S11.1
  rw [← hh16] at f17
  have f18 := f13
  rw [← hh16] at f18
  have f19 := f14
  rw [← hh16] at f19
  have f20 := f15
  rw [← hh16] at f20
  have f21 := S11.2.1
  rw [← hh16] at f21
  have f22 := S11.2.2.1
  rw [← hh16] at f22
  have f23 := S11.2.2.2.1
  rw [← hh16] at f23
  have f24 := S11.2.2.2.2.1
  rw [← hh16] at f24
  have f25 := S11.2.2.2.2.2.1
  rw [← hh16] at f25
  have f26 := S11.2.2.2.2.2.2.1
  rw [← hh16] at f26
  have f27 := S11.2.2.2.2.2.2.2.1
  rw [← hh16] at f27
  have f28 := S11.2.2.2.2.2.2.2.2
  rw [← hh16] at f28
  have sz16 : n0 ≤ T16.heap.size := by rw [hh16]; exact sz11
  show OwnG p e below s _ _ _ (T16.setTop (mkF m 188 _ [(.int 2)]))
  refine own_by (fun _ K => XS.iloadN X16.here hx rfl (hb hby at_188) rfl K) ?_
  show OwnG p e below s _ _ _ (T16.setTop (mkF m 189 _ [(.int 2), (.int 2)]))
  refine own_by (fun _ K => XS.icmpYes X16.here hx rfl (pc0 := 189) (pc' := 194) rfl (hb hby at_189) rfl (teq (by decide)).1 (by decide) (by decide) K) ?_
  show OwnG p e below s _ _ _ (T16.setTop (mkF m 194 _ []))
  rw [hU1] at hU6
  obtain ⟨ho0, hp⟩ := own_fin2 hU6 hR11.1 hR11.2
  obtain ⟨hb0, hb1, hm⟩ := own_g2 hp
  exact own_r2 cnt sb pb sv pl ob sa da pa ss dd cc fd11 fs11 fp fss r11_0 r11_1 X16 hx hby hml hret hlk hown hnm hZ hw (rfl : T16.heap = T16.heap) N16 sz16 ⟨f17, f21, f22, f23, f24, f25, f26, f27, f28⟩ Nn Mm hP hss f18 f19 f20 gd gc ⟨t11_0.1, t11_0.2.1, t11_0.2.2⟩ ⟨t11_1.1, t11_1.2.1, t11_1.2.2⟩ hb0 hb1 ho0 hm
set_option maxRecDepth 65536 in
set_option maxHeartbeats 40000000 in
theorem own_o3 {p : Program} {l : Launch} {e : Env} {s : State} {m : MethodId} {args : Array Value} {below : List Frame} {meth : Method} {c : Code} {T0 : State} {locs : List Loc} {Z : State} {a0 : Array Value} {h0 : Heap} {n0 : Nat} (cnt sb pb mk : Int32) (sv pl : Int32 → Int32) (ob pa ss dd cc : Addr) (fp fss fdd fcc : Nat → Value) (r0 r1 r2 : Int32) (X0 : Stand p l e room_1 s m args below meth c T0 locs (0 + 1 + 1 + 1 + 1 + 1 + 2) (0 + 4 + 4 + 4 + 4 + 5 + 32)) (hx : p.tables.exec = Jvm.exec) (hby : c.code = code) (hml : c.maxLocals = 11) (hret : meth.sig.returnType = some .boolean) (hlk : meth.locks = false) (hown : s.vm.findClass "com/example/etsinta/etsinta/search/BestRankPinLaw" = some m.cls) (hnm : meth.name = "law") (hZ : Z.Warmed39 s.vm) (hw : ∀ d ∈ tables_1, d.before a0 Z = true) (e0 : T0.heap = h0) (N0 : Fr n0 locs) (Z0 : n0 ≤ h0.size) (Ap : OwnA Z h0 pa .int 4 fp) (As : OwnA Z h0 ss .double 4 fss) (Ad : OwnA Z h0 dd .int 4 fdd) (Ac : OwnA Z h0 cc .double 4 fcc) (hP : own_P pl fp) (hss : ∀ d, own_ok d → fss d.toNatClampNeg = .double (FP.i2d (sv d))) (k_r0 : own_ok r0) (k_r1 : own_ok r1) (k_r2 : own_ok r2) (v1_0 : fdd 0 = .int r0) (v1_1 : fdd 1 = .int r1) (v1_2 : fdd 2 = .int r2) (v2_0 : fcc 0 = .double (FP.i2d (sv r0))) (v2_1 : fcc 1 = .double (FP.i2d (sv r1))) (v2_2 : fcc 2 = .double (FP.i2d (sv r2))) (hb0 : ¬ r0 < 0 ∧ r0 < (3 : Int32)) (hb1 : ¬ r1 < 0 ∧ r1 < (3 : Int32)) (hb2 : ¬ r2 < 0 ∧ r2 < (3 : Int32)) (ho0 : ¬ own_K sv pl r0 < own_K sv pl r1) (ho1 : ¬ own_K sv pl r1 < own_K sv pl r2) (hm : ((((1 : Int32) <<< (r0 &&& 31)) ||| ((1 : Int32) <<< (r1 &&& 31))) ||| ((1 : Int32) <<< (r2 &&& 31))) ||| (0 : Int32) = ((1 : Int32) <<< ((3 : Int32) &&& 31)) - (1 : Int32)) :
    OwnG p e below s (fun v h L => v = some (.int 1) ∧ Fr n0 L) room_1.cells room_1.slots (T0.setTop (mkF m 408 #[.val (.int cnt), .val (.int sb), .val (.int pb), .val (.int 3), .val (.ref ss), .val (.ref pa), .val (.ref dd), .val (.ref cc), .val (.ref ob), .val (.int 1), .val (.int mk)] [])) := by
  show OwnG p e below s _ _ _ (T0.setTop (mkF m 408 #[.val (.int cnt), .val (.int sb), .val (.int pb), .val (.int 3), .val (.ref ss), .val (.ref pa), .val (.ref dd), .val (.ref cc), .val (.ref ob), .val (.int 1), .val (.int mk)] []))
  refine own_by (fun _ K => XS.aload X0.here hx rfl (hb hby at_408) rfl rfl K) ?_
  show OwnG p e below s _ _ _ (T0.setTop (mkF m 410 _ [(.ref pa)]))
  refine own_by (fun _ K => XS.aload X0.here hx rfl (hb hby at_410) rfl rfl K) ?_
  show OwnG p e below s _ _ _ (T0.setTop (mkF m 412 _ [(.ref dd), (.ref pa)]))
  refine own_by (fun _ K => XS.aload X0.here hx rfl (hb hby at_412) rfl rfl K) ?_
  show OwnG p e below s _ _ _ (T0.setTop (mkF m 414 _ [(.ref cc), (.ref dd), (.ref pa)]))
  refine own_by (fun _ K => XS.iloadN X0.here hx rfl (hb hby at_414) rfl K) ?_
  show OwnG p e below s _ _ _ (T0.setTop (mkF m 415 _ [(.int 3), (.ref cc), (.ref dd), (.ref pa)]))
  refine own_by (fun _ K => XS.iconst X0.here hx rfl (hb hby at_415) K) ?_
  show OwnG p e below s _ _ _ (T0.setTop (mkF m 416 _ [(.int 0), (.int 3), (.ref cc), (.ref dd), (.ref pa)]))
  obtain ⟨_, _, ⟨T1, L1, k1, n1⟩, -, X1, ⟨Lc1, hQ1, l1, y1, z1⟩, st1⟩ := Jvm.LawKit.callS X0 hx (y := (⟨"com/example/etsinta/etsinta/search/BestRankPinLaw", "ordered", "([I[I[DII)Z"⟩ : MethodName)) hown (mvT hZ (own_w hw 39 rfl)) (mvT hZ (own_w hw 40 rfl)) (mvT hZ (own_w hw 34 rfl)) (mvT hZ (own_w hw 41 rfl)) (by decide) (backOf (W := 0) (rm7p l Z a0 hw [] sv pl pa dd cc (3 : Int32) (0 : Int32) r0 r1 0 fdd fcc fp h0 n0 Z0 Ap Ad Ac hP (by decide) ⟨by decide, rfl, by decide⟩ ⟨by decide, by decide, by decide⟩ k_r0 k_r1 v1_0 v2_0 v1_1 v2_1 ho0) hZ (own_w hw 41 rfl) (own_w hw 34 rfl) (by decide) (by decide)) (g := (mkF m 416 #[.val (.int cnt), .val (.int sb), .val (.int pb), .val (.int 3), .val (.ref ss), .val (.ref pa), .val (.ref dd), .val (.ref cc), .val (.ref ob), .val (.int 1), .val (.int mk)] [(.int 0), (.int 3), (.ref cc), (.ref dd), (.ref pa)])) rfl (by rw [hml]; rfl) (argsL := [(.ref pa), (.ref dd), (.ref cc), (.int 3), (.int 0)]) (rest := []) (lenOf pd_13 rfl) rfl (by show 2 * 0 + _ ≤ _; exact Nat.le_of_eq rfl) (hb hby at_416) (fun _ _ => ⟨rfl, e0, (by decide : 0 + 1 + 1 + 1 + 1 + 1 + 2 + 0 ≤ _), (by decide : 0 + 4 + 4 + 4 + 4 + 5 + 32 + 0 ≤ _)⟩)
  dsimp only [Pt.U, Pt.locs, Pt.cells, Pt.slots] at X1 l1 y1 z1 st1 hQ1
  subst l1 y1 z1
  refine own_by (fun _ K => st1 _ K) ?_
  obtain ⟨rfl, N1q, hh1⟩ := hQ1
  have N1 := Fr.app N0 N1q
  have f2 := Ap
  rw [← hh1] at f2
  have f3 := As
  rw [← hh1] at f3
  have f4 := Ad
  rw [← hh1] at f4
  have f5 := Ac
  rw [← hh1] at f5
  have sz1 : n0 ≤ T1.heap.size := by rw [hh1]; exact Z0
  show OwnG p e below s _ _ _ (T1.setTop (mkF m 419 _ [(.int 1)]))
  refine own_by (fun _ K => XS.ifNo X1.here hx rfl (hb hby at_419) rfl ((if0 _ _).trans (feq (by decide)).1) K) ?_
  show OwnG p e below s _ _ _ (T1.setTop (mkF m 422 _ []))
  refine own_by (fun _ K => XS.aload X1.here hx rfl (hb hby at_422) rfl rfl K) ?_
  show OwnG p e below s _ _ _ (T1.setTop (mkF m 424 _ [(.ref pa)]))
  refine own_by (fun _ K => XS.aload X1.here hx rfl (hb hby at_424) rfl rfl K) ?_
  show OwnG p e below s _ _ _ (T1.setTop (mkF m 426 _ [(.ref dd), (.ref pa)]))
  refine own_by (fun _ K => XS.aload X1.here hx rfl (hb hby at_426) rfl rfl K) ?_
  show OwnG p e below s _ _ _ (T1.setTop (mkF m 428 _ [(.ref cc), (.ref dd), (.ref pa)]))
  refine own_by (fun _ K => XS.iloadN X1.here hx rfl (hb hby at_428) rfl K) ?_
  show OwnG p e below s _ _ _ (T1.setTop (mkF m 429 _ [(.int 3), (.ref cc), (.ref dd), (.ref pa)]))
  refine own_by (fun _ K => XS.iconst X1.here hx rfl (hb hby at_429) K) ?_
  show OwnG p e below s _ _ _ (T1.setTop (mkF m 430 _ [(.int 1), (.int 3), (.ref cc), (.ref dd), (.ref pa)]))
  obtain ⟨_, _, ⟨T6, L6, k6, n6⟩, -, X6, ⟨Lc6, hQ6, l6, y6, z6⟩, st6⟩ := Jvm.LawKit.callS X1 hx (y := (⟨"com/example/etsinta/etsinta/search/BestRankPinLaw", "ordered", "([I[I[DII)Z"⟩ : MethodName)) hown (mvT hZ (own_w hw 39 rfl)) (mvT hZ (own_w hw 40 rfl)) (mvT hZ (own_w hw 34 rfl)) (mvT hZ (own_w hw 41 rfl)) (by decide) (backOf (W := 0) (rm7p l Z a0 hw [] sv pl pa dd cc (3 : Int32) (1 : Int32) r1 r2 1 fdd fcc fp T1.heap n0 sz1 f2 f4 f5 hP (by decide) ⟨by decide, rfl, by decide⟩ ⟨by decide, by decide, by decide⟩ k_r1 k_r2 v1_1 v2_1 v1_2 v2_2 ho1) hZ (own_w hw 41 rfl) (own_w hw 34 rfl) (by decide) (by decide)) (g := (mkF m 430 #[.val (.int cnt), .val (.int sb), .val (.int pb), .val (.int 3), .val (.ref ss), .val (.ref pa), .val (.ref dd), .val (.ref cc), .val (.ref ob), .val (.int 1), .val (.int mk)] [(.int 1), (.int 3), (.ref cc), (.ref dd), (.ref pa)])) rfl (by rw [hml]; rfl) (argsL := [(.ref pa), (.ref dd), (.ref cc), (.int 3), (.int 1)]) (rest := []) (lenOf pd_13 rfl) rfl (by show 2 * 0 + _ ≤ _; exact Nat.le_of_eq rfl) (hb hby at_430) (fun _ _ => ⟨rfl, (rfl : T1.heap = T1.heap), (by decide : 0 + 1 + 1 + 1 + 1 + 1 + 2 + 0 ≤ _), (by decide : 0 + 4 + 4 + 4 + 4 + 5 + 32 + 0 ≤ _)⟩)
  dsimp only [Pt.U, Pt.locs, Pt.cells, Pt.slots] at X6 l6 y6 z6 st6 hQ6
  subst l6 y6 z6
  refine own_by (fun _ K => st6 _ K) ?_
  obtain ⟨rfl, N6q, hh6⟩ := hQ6
  have N6 := Fr.app N1 N6q
  have f7 := f2
  rw [← hh6] at f7
  have f8 := f3
  rw [← hh6] at f8
  have f9 := f4
  rw [← hh6] at f9
  have f10 := f5
  rw [← hh6] at f10
  have sz6 : n0 ≤ T6.heap.size := by rw [hh6]; exact sz1
  show OwnG p e below s _ _ _ (T6.setTop (mkF m 433 _ [(.int 1)]))
  refine own_by (fun _ K => XS.ifNo X6.here hx rfl (hb hby at_433) rfl ((if0 _ _).trans (feq (by decide)).1) K) ?_
  show OwnG p e below s _ _ _ (T6.setTop (mkF m 436 _ []))
  refine own_by (fun _ K => XS.aload X6.here hx rfl (hb hby at_436) rfl rfl K) ?_
  show OwnG p e below s _ _ _ (T6.setTop (mkF m 438 _ [(.ref pa)]))
  refine own_by (fun _ K => XS.aload X6.here hx rfl (hb hby at_438) rfl rfl K) ?_
  show OwnG p e below s _ _ _ (T6.setTop (mkF m 440 _ [(.ref dd), (.ref pa)]))
  refine own_by (fun _ K => XS.aload X6.here hx rfl (hb hby at_440) rfl rfl K) ?_
  show OwnG p e below s _ _ _ (T6.setTop (mkF m 442 _ [(.ref cc), (.ref dd), (.ref pa)]))
  refine own_by (fun _ K => XS.iloadN X6.here hx rfl (hb hby at_442) rfl K) ?_
  show OwnG p e below s _ _ _ (T6.setTop (mkF m 443 _ [(.int 3), (.ref cc), (.ref dd), (.ref pa)]))
  refine own_by (fun _ K => XS.iconst X6.here hx rfl (hb hby at_443) K) ?_
  show OwnG p e below s _ _ _ (T6.setTop (mkF m 444 _ [(.int 2), (.int 3), (.ref cc), (.ref dd), (.ref pa)]))
  obtain ⟨_, _, ⟨T11, L11, k11, n11⟩, -, X11, ⟨Lc11, hQ11, l11, y11, z11⟩, st11⟩ := Jvm.LawKit.callS X6 hx (y := (⟨"com/example/etsinta/etsinta/search/BestRankPinLaw", "ordered", "([I[I[DII)Z"⟩ : MethodName)) hown (mvT hZ (own_w hw 39 rfl)) (mvT hZ (own_w hw 40 rfl)) (mvT hZ (own_w hw 34 rfl)) (mvT hZ (own_w hw 41 rfl)) (by decide) (backOf (W := 0) (rm7z l Z a0 hw [] pa dd cc (3 : Int32) (2 : Int32) T6.heap n0 sz6 (by decide)) hZ (own_w hw 41 rfl) (own_w hw 34 rfl) (by decide) (by decide)) (g := (mkF m 444 #[.val (.int cnt), .val (.int sb), .val (.int pb), .val (.int 3), .val (.ref ss), .val (.ref pa), .val (.ref dd), .val (.ref cc), .val (.ref ob), .val (.int 1), .val (.int mk)] [(.int 2), (.int 3), (.ref cc), (.ref dd), (.ref pa)])) rfl (by rw [hml]; rfl) (argsL := [(.ref pa), (.ref dd), (.ref cc), (.int 3), (.int 2)]) (rest := []) (lenOf pd_13 rfl) rfl (by show 2 * 0 + _ ≤ _; exact Nat.le_of_eq rfl) (hb hby at_444) (fun _ _ => ⟨rfl, (rfl : T6.heap = T6.heap), (by decide : 0 + 1 + 1 + 1 + 1 + 1 + 2 + 0 ≤ _), (by decide : 0 + 4 + 4 + 4 + 4 + 5 + 32 + 0 ≤ _)⟩)
  dsimp only [Pt.U, Pt.locs, Pt.cells, Pt.slots] at X11 l11 y11 z11 st11 hQ11
  subst l11 y11 z11
  refine own_by (fun _ K => st11 _ K) ?_
  obtain ⟨rfl, N11q, hh11⟩ := hQ11
  have N11 := Fr.app N6 N11q
  have f12 := f7
  rw [← hh11] at f12
  have f13 := f8
  rw [← hh11] at f13
  have f14 := f9
  rw [← hh11] at f14
  have f15 := f10
  rw [← hh11] at f15
  have sz11 : n0 ≤ T11.heap.size := by rw [hh11]; exact sz6
  show OwnG p e below s _ _ _ (T11.setTop (mkF m 447 _ [(.int 1)]))
  refine own_by (fun _ K => XS.ifNo X11.here hx rfl (hb hby at_447) rfl ((if0 _ _).trans (feq (by decide)).1) K) ?_
  show OwnG p e below s _ _ _ (T11.setTop (mkF m 450 _ []))
  refine own_by (fun _ K => XS.iconst X11.here hx rfl (hb hby at_450) K) ?_
  show OwnG p e below s _ _ _ (T11.setTop (mkF m 451 _ [(.int 1)]))
  refine own_by (fun _ K => XS.goto X11.here hx rfl (pc0 := 451) (pc' := 455) rfl (hb hby at_451) (by decide) (by decide) K) ?_
  show OwnG p e below s _ _ _ (T11.setTop (mkF m 455 _ [(.int 1)]))
  exact own_outN X11 hx hret (by simp) hlk (hb hby at_455) rfl (⟨rfl, N11⟩) (by decide) (by decide)
set_option maxRecDepth 65536 in
set_option maxHeartbeats 40000000 in
theorem own_e3 {p : Program} {l : Launch} {e : Env} {s : State} {m : MethodId} {args : Array Value} {below : List Frame} {meth : Method} {c : Code} {T0 : State} {locs : List Loc} {Z : State} {a0 : Array Value} {h0 : Heap} {n0 : Nat} (cnt sb pb mk : Int32) (sv pl : Int32 → Int32) (ob pa ss dd cc : Addr) (fp fss fdd fcc : Nat → Value) (r0 r1 r2 : Int32) (X0 : Stand p l e room_1 s m args below meth c T0 locs (0 + 1 + 1 + 1 + 1 + 1 + 2) (0 + 4 + 4 + 4 + 4 + 5 + 32)) (hx : p.tables.exec = Jvm.exec) (hby : c.code = code) (hml : c.maxLocals = 11) (hret : meth.sig.returnType = some .boolean) (hlk : meth.locks = false) (hown : s.vm.findClass "com/example/etsinta/etsinta/search/BestRankPinLaw" = some m.cls) (hnm : meth.name = "law") (hZ : Z.Warmed39 s.vm) (hw : ∀ d ∈ tables_1, d.before a0 Z = true) (e0 : T0.heap = h0) (N0 : Fr n0 locs) (Z0 : n0 ≤ h0.size) (Ap : OwnA Z h0 pa .int 4 fp) (As : OwnA Z h0 ss .double 4 fss) (Ad : OwnA Z h0 dd .int 4 fdd) (Ac : OwnA Z h0 cc .double 4 fcc) (hP : own_P pl fp) (hss : ∀ d, own_ok d → fss d.toNatClampNeg = .double (FP.i2d (sv d))) (k_r0 : own_ok r0) (k_r1 : own_ok r1) (k_r2 : own_ok r2) (v1_0 : fdd 0 = .int r0) (v1_1 : fdd 1 = .int r1) (v1_2 : fdd 2 = .int r2) (v2_0 : fcc 0 = .double (FP.i2d (sv r0))) (v2_1 : fcc 1 = .double (FP.i2d (sv r1))) (v2_2 : fcc 2 = .double (FP.i2d (sv r2))) (hb0 : ¬ r0 < 0 ∧ r0 < (3 : Int32)) (hb1 : ¬ r1 < 0 ∧ r1 < (3 : Int32)) (hb2 : ¬ r2 < 0 ∧ r2 < (3 : Int32)) (ho0 : ¬ own_K sv pl r0 < own_K sv pl r1) (ho1 : ¬ own_K sv pl r1 < own_K sv pl r2) (hm : ((((1 : Int32) <<< (r0 &&& 31)) ||| ((1 : Int32) <<< (r1 &&& 31))) ||| ((1 : Int32) <<< (r2 &&& 31))) ||| (0 : Int32) = ((1 : Int32) <<< ((3 : Int32) &&& 31)) - (1 : Int32)) :
    OwnG p e below s (fun v h L => v = some (.int 1) ∧ Fr n0 L) room_1.cells room_1.slots (T0.setTop (mkF m 293 #[.val (.int cnt), .val (.int sb), .val (.int pb), .val (.int 3), .val (.ref ss), .val (.ref pa), .val (.ref dd), .val (.ref cc), .val (.ref ob), .unset, .unset] [])) := by
  show OwnG p e below s _ _ _ (T0.setTop (mkF m 293 #[.val (.int cnt), .val (.int sb), .val (.int pb), .val (.int 3), .val (.ref ss), .val (.ref pa), .val (.ref dd), .val (.ref cc), .val (.ref ob), .unset, .unset] []))
  refine own_by (fun _ K => XS.aload X0.here hx rfl (hb hby at_293) rfl rfl K) ?_
  show OwnG p e below s _ _ _ (T0.setTop (mkF m 295 _ [(.ref dd)]))
  refine own_by (fun _ K => XS.aload X0.here hx rfl (hb hby at_295) rfl rfl K) ?_
  show OwnG p e below s _ _ _ (T0.setTop (mkF m 297 _ [(.ref cc), (.ref dd)]))
  refine own_by (fun _ K => XS.aload X0.here hx rfl (hb hby at_297) rfl rfl K) ?_
  show OwnG p e below s _ _ _ (T0.setTop (mkF m 299 _ [(.ref ss), (.ref cc), (.ref dd)]))
  refine own_by (fun _ K => XS.iloadN X0.here hx rfl (hb hby at_299) rfl K) ?_
  show OwnG p e below s _ _ _ (T0.setTop (mkF m 300 _ [(.int 3), (.ref ss), (.ref cc), (.ref dd)]))
  refine own_by (fun _ K => XS.iconst X0.here hx rfl (hb hby at_300) K) ?_
  show OwnG p e below s _ _ _ (T0.setTop (mkF m 301 _ [(.int 0), (.int 3), (.ref ss), (.ref cc), (.ref dd)]))
  obtain ⟨_, _, ⟨T1, L1, k1, n1⟩, -, X1, ⟨Lc1, hQ1, l1, y1, z1⟩, st1⟩ := Jvm.LawKit.callS X0 hx (y := (⟨"com/example/etsinta/etsinta/search/BestRankPinLaw", "entryOk", "([I[D[DII)Z"⟩ : MethodName)) hown (mvT hZ (own_w hw 32 rfl)) (mvT hZ (own_w hw 33 rfl)) (mvT hZ (own_w hw 34 rfl)) (mvT hZ (own_w hw 35 rfl)) (by decide) (backOf (W := 0) (rm5p l Z a0 hw [] sv dd cc ss (3 : Int32) (0 : Int32) r0 0 fdd fcc fss h0 n0 Z0 Ad Ac As (by decide) ⟨by decide, rfl, by decide⟩ hb0 k_r0 v1_0 v2_0 (hss r0 k_r0)) hZ (own_w hw 35 rfl) (own_w hw 34 rfl) (by decide) (by decide)) (g := (mkF m 301 #[.val (.int cnt), .val (.int sb), .val (.int pb), .val (.int 3), .val (.ref ss), .val (.ref pa), .val (.ref dd), .val (.ref cc), .val (.ref ob), .unset, .unset] [(.int 0), (.int 3), (.ref ss), (.ref cc), (.ref dd)])) rfl (by rw [hml]; rfl) (argsL := [(.ref dd), (.ref cc), (.ref ss), (.int 3), (.int 0)]) (rest := []) (lenOf pd_11 rfl) rfl (by show 2 * 0 + _ ≤ _; exact Nat.le_of_eq rfl) (hb hby at_301) (fun _ _ => ⟨rfl, e0, (by decide : 0 + 1 + 1 + 1 + 1 + 1 + 2 + 0 ≤ _), (by decide : 0 + 4 + 4 + 4 + 4 + 5 + 32 + 0 ≤ _)⟩)
  dsimp only [Pt.U, Pt.locs, Pt.cells, Pt.slots] at X1 l1 y1 z1 st1 hQ1
  subst l1 y1 z1
  refine own_by (fun _ K => st1 _ K) ?_
  obtain ⟨rfl, N1q, hh1⟩ := hQ1
  have N1 := Fr.app N0 N1q
  have f2 := Ap
  rw [← hh1] at f2
  have f3 := As
  rw [← hh1] at f3
  have f4 := Ad
  rw [← hh1] at f4
  have f5 := Ac
  rw [← hh1] at f5
  have sz1 : n0 ≤ T1.heap.size := by rw [hh1]; exact Z0
  show OwnG p e below s _ _ _ (T1.setTop (mkF m 304 _ [(.int 1)]))
  refine own_by (fun _ K => XS.ifNo X1.here hx rfl (hb hby at_304) rfl ((if0 _ _).trans (feq (by decide)).1) K) ?_
  show OwnG p e below s _ _ _ (T1.setTop (mkF m 307 _ []))
  refine own_by (fun _ K => XS.aload X1.here hx rfl (hb hby at_307) rfl rfl K) ?_
  show OwnG p e below s _ _ _ (T1.setTop (mkF m 309 _ [(.ref dd)]))
  refine own_by (fun _ K => XS.aload X1.here hx rfl (hb hby at_309) rfl rfl K) ?_
  show OwnG p e below s _ _ _ (T1.setTop (mkF m 311 _ [(.ref cc), (.ref dd)]))
  refine own_by (fun _ K => XS.aload X1.here hx rfl (hb hby at_311) rfl rfl K) ?_
  show OwnG p e below s _ _ _ (T1.setTop (mkF m 313 _ [(.ref ss), (.ref cc), (.ref dd)]))
  refine own_by (fun _ K => XS.iloadN X1.here hx rfl (hb hby at_313) rfl K) ?_
  show OwnG p e below s _ _ _ (T1.setTop (mkF m 314 _ [(.int 3), (.ref ss), (.ref cc), (.ref dd)]))
  refine own_by (fun _ K => XS.iconst X1.here hx rfl (hb hby at_314) K) ?_
  show OwnG p e below s _ _ _ (T1.setTop (mkF m 315 _ [(.int 1), (.int 3), (.ref ss), (.ref cc), (.ref dd)]))
  obtain ⟨_, _, ⟨T6, L6, k6, n6⟩, -, X6, ⟨Lc6, hQ6, l6, y6, z6⟩, st6⟩ := Jvm.LawKit.callS X1 hx (y := (⟨"com/example/etsinta/etsinta/search/BestRankPinLaw", "entryOk", "([I[D[DII)Z"⟩ : MethodName)) hown (mvT hZ (own_w hw 32 rfl)) (mvT hZ (own_w hw 33 rfl)) (mvT hZ (own_w hw 34 rfl)) (mvT hZ (own_w hw 35 rfl)) (by decide) (backOf (W := 0) (rm5p l Z a0 hw [] sv dd cc ss (3 : Int32) (1 : Int32) r1 1 fdd fcc fss T1.heap n0 sz1 f4 f5 f3 (by decide) ⟨by decide, rfl, by decide⟩ hb1 k_r1 v1_1 v2_1 (hss r1 k_r1)) hZ (own_w hw 35 rfl) (own_w hw 34 rfl) (by decide) (by decide)) (g := (mkF m 315 #[.val (.int cnt), .val (.int sb), .val (.int pb), .val (.int 3), .val (.ref ss), .val (.ref pa), .val (.ref dd), .val (.ref cc), .val (.ref ob), .unset, .unset] [(.int 1), (.int 3), (.ref ss), (.ref cc), (.ref dd)])) rfl (by rw [hml]; rfl) (argsL := [(.ref dd), (.ref cc), (.ref ss), (.int 3), (.int 1)]) (rest := []) (lenOf pd_11 rfl) rfl (by show 2 * 0 + _ ≤ _; exact Nat.le_of_eq rfl) (hb hby at_315) (fun _ _ => ⟨rfl, (rfl : T1.heap = T1.heap), (by decide : 0 + 1 + 1 + 1 + 1 + 1 + 2 + 0 ≤ _), (by decide : 0 + 4 + 4 + 4 + 4 + 5 + 32 + 0 ≤ _)⟩)
  dsimp only [Pt.U, Pt.locs, Pt.cells, Pt.slots] at X6 l6 y6 z6 st6 hQ6
  subst l6 y6 z6
  refine own_by (fun _ K => st6 _ K) ?_
  obtain ⟨rfl, N6q, hh6⟩ := hQ6
  have N6 := Fr.app N1 N6q
  have f7 := f2
  rw [← hh6] at f7
  have f8 := f3
  rw [← hh6] at f8
  have f9 := f4
  rw [← hh6] at f9
  have f10 := f5
  rw [← hh6] at f10
  have sz6 : n0 ≤ T6.heap.size := by rw [hh6]; exact sz1
  show OwnG p e below s _ _ _ (T6.setTop (mkF m 318 _ [(.int 1)]))
  refine own_by (fun _ K => XS.ifNo X6.here hx rfl (hb hby at_318) rfl ((if0 _ _).trans (feq (by decide)).1) K) ?_
  show OwnG p e below s _ _ _ (T6.setTop (mkF m 321 _ []))
  refine own_by (fun _ K => XS.aload X6.here hx rfl (hb hby at_321) rfl rfl K) ?_
  show OwnG p e below s _ _ _ (T6.setTop (mkF m 323 _ [(.ref dd)]))
  refine own_by (fun _ K => XS.aload X6.here hx rfl (hb hby at_323) rfl rfl K) ?_
  show OwnG p e below s _ _ _ (T6.setTop (mkF m 325 _ [(.ref cc), (.ref dd)]))
  refine own_by (fun _ K => XS.aload X6.here hx rfl (hb hby at_325) rfl rfl K) ?_
  show OwnG p e below s _ _ _ (T6.setTop (mkF m 327 _ [(.ref ss), (.ref cc), (.ref dd)]))
  refine own_by (fun _ K => XS.iloadN X6.here hx rfl (hb hby at_327) rfl K) ?_
  show OwnG p e below s _ _ _ (T6.setTop (mkF m 328 _ [(.int 3), (.ref ss), (.ref cc), (.ref dd)]))
  refine own_by (fun _ K => XS.iconst X6.here hx rfl (hb hby at_328) K) ?_
  show OwnG p e below s _ _ _ (T6.setTop (mkF m 329 _ [(.int 2), (.int 3), (.ref ss), (.ref cc), (.ref dd)]))
  obtain ⟨_, _, ⟨T11, L11, k11, n11⟩, -, X11, ⟨Lc11, hQ11, l11, y11, z11⟩, st11⟩ := Jvm.LawKit.callS X6 hx (y := (⟨"com/example/etsinta/etsinta/search/BestRankPinLaw", "entryOk", "([I[D[DII)Z"⟩ : MethodName)) hown (mvT hZ (own_w hw 32 rfl)) (mvT hZ (own_w hw 33 rfl)) (mvT hZ (own_w hw 34 rfl)) (mvT hZ (own_w hw 35 rfl)) (by decide) (backOf (W := 0) (rm5p l Z a0 hw [] sv dd cc ss (3 : Int32) (2 : Int32) r2 2 fdd fcc fss T6.heap n0 sz6 f9 f10 f8 (by decide) ⟨by decide, rfl, by decide⟩ hb2 k_r2 v1_2 v2_2 (hss r2 k_r2)) hZ (own_w hw 35 rfl) (own_w hw 34 rfl) (by decide) (by decide)) (g := (mkF m 329 #[.val (.int cnt), .val (.int sb), .val (.int pb), .val (.int 3), .val (.ref ss), .val (.ref pa), .val (.ref dd), .val (.ref cc), .val (.ref ob), .unset, .unset] [(.int 2), (.int 3), (.ref ss), (.ref cc), (.ref dd)])) rfl (by rw [hml]; rfl) (argsL := [(.ref dd), (.ref cc), (.ref ss), (.int 3), (.int 2)]) (rest := []) (lenOf pd_11 rfl) rfl (by show 2 * 0 + _ ≤ _; exact Nat.le_of_eq rfl) (hb hby at_329) (fun _ _ => ⟨rfl, (rfl : T6.heap = T6.heap), (by decide : 0 + 1 + 1 + 1 + 1 + 1 + 2 + 0 ≤ _), (by decide : 0 + 4 + 4 + 4 + 4 + 5 + 32 + 0 ≤ _)⟩)
  dsimp only [Pt.U, Pt.locs, Pt.cells, Pt.slots] at X11 l11 y11 z11 st11 hQ11
  subst l11 y11 z11
  refine own_by (fun _ K => st11 _ K) ?_
  obtain ⟨rfl, N11q, hh11⟩ := hQ11
  have N11 := Fr.app N6 N11q
  have f12 := f7
  rw [← hh11] at f12
  have f13 := f8
  rw [← hh11] at f13
  have f14 := f9
  rw [← hh11] at f14
  have f15 := f10
  rw [← hh11] at f15
  have sz11 : n0 ≤ T11.heap.size := by rw [hh11]; exact sz6
  show OwnG p e below s _ _ _ (T11.setTop (mkF m 332 _ [(.int 1)]))
  refine own_by (fun _ K => XS.ifNo X11.here hx rfl (hb hby at_332) rfl ((if0 _ _).trans (feq (by decide)).1) K) ?_
  show OwnG p e below s _ _ _ (T11.setTop (mkF m 335 _ []))
  refine own_by (fun _ K => XS.aload X11.here hx rfl (hb hby at_335) rfl rfl K) ?_
  show OwnG p e below s _ _ _ (T11.setTop (mkF m 337 _ [(.ref dd)]))
  refine own_by (fun _ K => XS.aload X11.here hx rfl (hb hby at_337) rfl rfl K) ?_
  show OwnG p e below s _ _ _ (T11.setTop (mkF m 339 _ [(.ref cc), (.ref dd)]))
  refine own_by (fun _ K => XS.aload X11.here hx rfl (hb hby at_339) rfl rfl K) ?_
  show OwnG p e below s _ _ _ (T11.setTop (mkF m 341 _ [(.ref ss), (.ref cc), (.ref dd)]))
  refine own_by (fun _ K => XS.iloadN X11.here hx rfl (hb hby at_341) rfl K) ?_
  show OwnG p e below s _ _ _ (T11.setTop (mkF m 342 _ [(.int 3), (.ref ss), (.ref cc), (.ref dd)]))
  refine own_by (fun _ K => XS.iconst X11.here hx rfl (hb hby at_342) K) ?_
  show OwnG p e below s _ _ _ (T11.setTop (mkF m 343 _ [(.int 3), (.int 3), (.ref ss), (.ref cc), (.ref dd)]))
  obtain ⟨_, _, ⟨T16, L16, k16, n16⟩, -, X16, ⟨Lc16, hQ16, l16, y16, z16⟩, st16⟩ := Jvm.LawKit.callS X11 hx (y := (⟨"com/example/etsinta/etsinta/search/BestRankPinLaw", "entryOk", "([I[D[DII)Z"⟩ : MethodName)) hown (mvT hZ (own_w hw 32 rfl)) (mvT hZ (own_w hw 33 rfl)) (mvT hZ (own_w hw 34 rfl)) (mvT hZ (own_w hw 35 rfl)) (by decide) (backOf (W := 0) (rm5z l Z a0 hw [] dd cc ss (3 : Int32) (3 : Int32) T11.heap n0 sz11 (by decide)) hZ (own_w hw 35 rfl) (own_w hw 34 rfl) (by decide) (by decide)) (g := (mkF m 343 #[.val (.int cnt), .val (.int sb), .val (.int pb), .val (.int 3), .val (.ref ss), .val (.ref pa), .val (.ref dd), .val (.ref cc), .val (.ref ob), .unset, .unset] [(.int 3), (.int 3), (.ref ss), (.ref cc), (.ref dd)])) rfl (by rw [hml]; rfl) (argsL := [(.ref dd), (.ref cc), (.ref ss), (.int 3), (.int 3)]) (rest := []) (lenOf pd_11 rfl) rfl (by show 2 * 0 + _ ≤ _; exact Nat.le_of_eq rfl) (hb hby at_343) (fun _ _ => ⟨rfl, (rfl : T11.heap = T11.heap), (by decide : 0 + 1 + 1 + 1 + 1 + 1 + 2 + 0 ≤ _), (by decide : 0 + 4 + 4 + 4 + 4 + 5 + 32 + 0 ≤ _)⟩)
  dsimp only [Pt.U, Pt.locs, Pt.cells, Pt.slots] at X16 l16 y16 z16 st16 hQ16
  subst l16 y16 z16
  refine own_by (fun _ K => st16 _ K) ?_
  obtain ⟨rfl, N16q, hh16⟩ := hQ16
  have N16 := Fr.app N11 N16q
  have f17 := f12
  rw [← hh16] at f17
  have f18 := f13
  rw [← hh16] at f18
  have f19 := f14
  rw [← hh16] at f19
  have f20 := f15
  rw [← hh16] at f20
  have sz16 : n0 ≤ T16.heap.size := by rw [hh16]; exact sz11
  show OwnG p e below s _ _ _ (T16.setTop (mkF m 346 _ [(.int 1)]))
  refine own_by (fun _ K => XS.ifNo X16.here hx rfl (hb hby at_346) rfl ((if0 _ _).trans (feq (by decide)).1) K) ?_
  show OwnG p e below s _ _ _ (T16.setTop (mkF m 349 _ []))
  refine own_by (fun _ K => XS.iconst X16.here hx rfl (hb hby at_349) K) ?_
  show OwnG p e below s _ _ _ (T16.setTop (mkF m 350 _ [(.int 1)]))
  refine own_by (fun _ K => XS.goto X16.here hx rfl (pc0 := 350) (pc' := 354) rfl (hb hby at_350) (by decide) (by decide) K) ?_
  show OwnG p e below s _ _ _ (T16.setTop (mkF m 354 _ [(.int 1)]))
  refine own_by (fun _ K => XS.istore X16.here hx rfl (hb hby at_354) rfl (l' := #[.val (.int cnt), .val (.int sb), .val (.int pb), .val (.int 3), .val (.ref ss), .val (.ref pa), .val (.ref dd), .val (.ref cc), .val (.ref ob), .val (.int 1), .unset]) rfl K) ?_
  show OwnG p e below s _ _ _ (T16.setTop (mkF m 356 _ []))
  refine own_by (fun _ K => XS.iload X16.here hx rfl (hb hby at_356) rfl K) ?_
  show OwnG p e below s _ _ _ (T16.setTop (mkF m 358 _ [(.int 1)]))
  refine own_by (fun _ K => XS.ifYes X16.here hx rfl (pc0 := 358) (pc' := 363) rfl (hb hby at_358) rfl ((if0 _ _).trans (feq (by decide)).2) (by decide) (by decide) K) ?_
  show OwnG p e below s _ _ _ (T16.setTop (mkF m 363 _ []))
  refine own_by (fun _ K => XS.aload X16.here hx rfl (hb hby at_363) rfl rfl K) ?_
  show OwnG p e below s _ _ _ (T16.setTop (mkF m 365 _ [(.ref dd)]))
  refine own_by (fun _ K => XS.iloadN X16.here hx rfl (hb hby at_365) rfl K) ?_
  show OwnG p e below s _ _ _ (T16.setTop (mkF m 366 _ [(.int 3), (.ref dd)]))
  refine own_by (fun _ K => XS.iconst X16.here hx rfl (hb hby at_366) K) ?_
  show OwnG p e below s _ _ _ (T16.setTop (mkF m 367 _ [(.int 0), (.int 3), (.ref dd)]))
  obtain ⟨_, _, ⟨T21, L21, k21, n21⟩, -, X21, ⟨Lc21, hQ21, l21, y21, z21⟩, st21⟩ := Jvm.LawKit.callS X16 hx (y := (⟨"com/example/etsinta/etsinta/search/BestRankPinLaw", "bit", "([III)I"⟩ : MethodName)) hown (mvT hZ (own_w hw 36 rfl)) (mvT hZ (own_w hw 37 rfl)) (mvT hZ (own_w hw 34 rfl)) (mvT hZ (own_w hw 38 rfl)) (by decide) (backOf (W := 0) (rm6p l Z a0 hw [] dd (3 : Int32) (0 : Int32) r0 0 fdd T16.heap n0 sz16 f19 (by decide) ⟨by decide, rfl, by decide⟩ v1_0) hZ (own_w hw 38 rfl) (own_w hw 34 rfl) (by decide) (by decide)) (g := (mkF m 367 #[.val (.int cnt), .val (.int sb), .val (.int pb), .val (.int 3), .val (.ref ss), .val (.ref pa), .val (.ref dd), .val (.ref cc), .val (.ref ob), .val (.int 1), .unset] [(.int 0), (.int 3), (.ref dd)])) rfl (by rw [hml]; rfl) (argsL := [(.ref dd), (.int 3), (.int 0)]) (rest := []) (lenOf pd_12 rfl) rfl (by show 2 * 0 + _ ≤ _; exact Nat.le_of_eq rfl) (hb hby at_367) (fun _ _ => ⟨rfl, (rfl : T16.heap = T16.heap), (by decide : 0 + 1 + 1 + 1 + 1 + 1 + 2 + 0 ≤ _), (by decide : 0 + 4 + 4 + 4 + 4 + 5 + 32 + 0 ≤ _)⟩)
  dsimp only [Pt.U, Pt.locs, Pt.cells, Pt.slots] at X21 l21 y21 z21 st21 hQ21
  subst l21 y21 z21
  refine own_by (fun _ K => st21 _ K) ?_
  obtain ⟨rfl, N21q, hh21⟩ := hQ21
  have N21 := Fr.app N16 N21q
  have f22 := f17
  rw [← hh21] at f22
  have f23 := f18
  rw [← hh21] at f23
  have f24 := f19
  rw [← hh21] at f24
  have f25 := f20
  rw [← hh21] at f25
  have sz21 : n0 ≤ T21.heap.size := by rw [hh21]; exact sz16
  show OwnG p e below s _ _ _ (T21.setTop (mkF m 370 _ [(.int ((1 : Int32) <<< (r0 &&& 31)))]))
  refine own_by (fun _ K => XS.aload X21.here hx rfl (hb hby at_370) rfl rfl K) ?_
  show OwnG p e below s _ _ _ (T21.setTop (mkF m 372 _ [(.ref dd), (.int ((1 : Int32) <<< (r0 &&& 31)))]))
  refine own_by (fun _ K => XS.iloadN X21.here hx rfl (hb hby at_372) rfl K) ?_
  show OwnG p e below s _ _ _ (T21.setTop (mkF m 373 _ [(.int 3), (.ref dd), (.int ((1 : Int32) <<< (r0 &&& 31)))]))
  refine own_by (fun _ K => XS.iconst X21.here hx rfl (hb hby at_373) K) ?_
  show OwnG p e below s _ _ _ (T21.setTop (mkF m 374 _ [(.int 1), (.int 3), (.ref dd), (.int ((1 : Int32) <<< (r0 &&& 31)))]))
  obtain ⟨_, _, ⟨T26, L26, k26, n26⟩, -, X26, ⟨Lc26, hQ26, l26, y26, z26⟩, st26⟩ := Jvm.LawKit.callS X21 hx (y := (⟨"com/example/etsinta/etsinta/search/BestRankPinLaw", "bit", "([III)I"⟩ : MethodName)) hown (mvT hZ (own_w hw 36 rfl)) (mvT hZ (own_w hw 37 rfl)) (mvT hZ (own_w hw 34 rfl)) (mvT hZ (own_w hw 38 rfl)) (by decide) (backOf (W := 1) (rm6p l Z a0 hw [] dd (3 : Int32) (1 : Int32) r1 1 fdd T21.heap n0 sz21 f24 (by decide) ⟨by decide, rfl, by decide⟩ v1_1) hZ (own_w hw 38 rfl) (own_w hw 34 rfl) (by decide) (by decide)) (g := (mkF m 374 #[.val (.int cnt), .val (.int sb), .val (.int pb), .val (.int 3), .val (.ref ss), .val (.ref pa), .val (.ref dd), .val (.ref cc), .val (.ref ob), .val (.int 1), .unset] [(.int 1), (.int 3), (.ref dd), (.int ((1 : Int32) <<< (r0 &&& 31)))])) rfl (by rw [hml]; rfl) (argsL := [(.ref dd), (.int 3), (.int 1)]) (rest := [(.int ((1 : Int32) <<< (r0 &&& 31)))]) (lenOf pd_12 rfl) rfl (by show 2 * 0 + _ ≤ _; exact Nat.le_of_eq rfl) (hb hby at_374) (fun _ _ => ⟨rfl, (rfl : T21.heap = T21.heap), (by decide : 0 + 1 + 1 + 1 + 1 + 1 + 2 + 0 ≤ _), (by decide : 0 + 4 + 4 + 4 + 4 + 5 + 32 + 0 ≤ _)⟩)
  dsimp only [Pt.U, Pt.locs, Pt.cells, Pt.slots] at X26 l26 y26 z26 st26 hQ26
  subst l26 y26 z26
  refine own_by (fun _ K => st26 _ K) ?_
  obtain ⟨rfl, N26q, hh26⟩ := hQ26
  have N26 := Fr.app N21 N26q
  have f27 := f22
  rw [← hh26] at f27
  have f28 := f23
  rw [← hh26] at f28
  have f29 := f24
  rw [← hh26] at f29
  have f30 := f25
  rw [← hh26] at f30
  have sz26 : n0 ≤ T26.heap.size := by rw [hh26]; exact sz21
  show OwnG p e below s _ _ _ (T26.setTop (mkF m 377 _ [(.int ((1 : Int32) <<< (r1 &&& 31))), (.int ((1 : Int32) <<< (r0 &&& 31)))]))
  refine own_by (fun _ K => XS.ior X26.here hx rfl (hb hby at_377) rfl K) ?_
  show OwnG p e below s _ _ _ (T26.setTop (mkF m 378 _ [(.int (((1 : Int32) <<< (r0 &&& 31)) ||| ((1 : Int32) <<< (r1 &&& 31))))]))
  refine own_by (fun _ K => XS.aload X26.here hx rfl (hb hby at_378) rfl rfl K) ?_
  show OwnG p e below s _ _ _ (T26.setTop (mkF m 380 _ [(.ref dd), (.int (((1 : Int32) <<< (r0 &&& 31)) ||| ((1 : Int32) <<< (r1 &&& 31))))]))
  refine own_by (fun _ K => XS.iloadN X26.here hx rfl (hb hby at_380) rfl K) ?_
  show OwnG p e below s _ _ _ (T26.setTop (mkF m 381 _ [(.int 3), (.ref dd), (.int (((1 : Int32) <<< (r0 &&& 31)) ||| ((1 : Int32) <<< (r1 &&& 31))))]))
  refine own_by (fun _ K => XS.iconst X26.here hx rfl (hb hby at_381) K) ?_
  show OwnG p e below s _ _ _ (T26.setTop (mkF m 382 _ [(.int 2), (.int 3), (.ref dd), (.int (((1 : Int32) <<< (r0 &&& 31)) ||| ((1 : Int32) <<< (r1 &&& 31))))]))
  obtain ⟨_, _, ⟨T31, L31, k31, n31⟩, -, X31, ⟨Lc31, hQ31, l31, y31, z31⟩, st31⟩ := Jvm.LawKit.callS X26 hx (y := (⟨"com/example/etsinta/etsinta/search/BestRankPinLaw", "bit", "([III)I"⟩ : MethodName)) hown (mvT hZ (own_w hw 36 rfl)) (mvT hZ (own_w hw 37 rfl)) (mvT hZ (own_w hw 34 rfl)) (mvT hZ (own_w hw 38 rfl)) (by decide) (backOf (W := 1) (rm6p l Z a0 hw [] dd (3 : Int32) (2 : Int32) r2 2 fdd T26.heap n0 sz26 f29 (by decide) ⟨by decide, rfl, by decide⟩ v1_2) hZ (own_w hw 38 rfl) (own_w hw 34 rfl) (by decide) (by decide)) (g := (mkF m 382 #[.val (.int cnt), .val (.int sb), .val (.int pb), .val (.int 3), .val (.ref ss), .val (.ref pa), .val (.ref dd), .val (.ref cc), .val (.ref ob), .val (.int 1), .unset] [(.int 2), (.int 3), (.ref dd), (.int (((1 : Int32) <<< (r0 &&& 31)) ||| ((1 : Int32) <<< (r1 &&& 31))))])) rfl (by rw [hml]; rfl) (argsL := [(.ref dd), (.int 3), (.int 2)]) (rest := [(.int (((1 : Int32) <<< (r0 &&& 31)) ||| ((1 : Int32) <<< (r1 &&& 31))))]) (lenOf pd_12 rfl) rfl (by show 2 * 0 + _ ≤ _; exact Nat.le_of_eq rfl) (hb hby at_382) (fun _ _ => ⟨rfl, (rfl : T26.heap = T26.heap), (by decide : 0 + 1 + 1 + 1 + 1 + 1 + 2 + 0 ≤ _), (by decide : 0 + 4 + 4 + 4 + 4 + 5 + 32 + 0 ≤ _)⟩)
  dsimp only [Pt.U, Pt.locs, Pt.cells, Pt.slots] at X31 l31 y31 z31 st31 hQ31
  subst l31 y31 z31
  refine own_by (fun _ K => st31 _ K) ?_
  obtain ⟨rfl, N31q, hh31⟩ := hQ31
  have N31 := Fr.app N26 N31q
  have f32 := f27
  rw [← hh31] at f32
  have f33 := f28
  rw [← hh31] at f33
  have f34 := f29
  rw [← hh31] at f34
  have f35 := f30
  rw [← hh31] at f35
  have sz31 : n0 ≤ T31.heap.size := by rw [hh31]; exact sz26
  show OwnG p e below s _ _ _ (T31.setTop (mkF m 385 _ [(.int ((1 : Int32) <<< (r2 &&& 31))), (.int (((1 : Int32) <<< (r0 &&& 31)) ||| ((1 : Int32) <<< (r1 &&& 31))))]))
  refine own_by (fun _ K => XS.ior X31.here hx rfl (hb hby at_385) rfl K) ?_
  show OwnG p e below s _ _ _ (T31.setTop (mkF m 386 _ [(.int ((((1 : Int32) <<< (r0 &&& 31)) ||| ((1 : Int32) <<< (r1 &&& 31))) ||| ((1 : Int32) <<< (r2 &&& 31))))]))
  refine own_by (fun _ K => XS.aload X31.here hx rfl (hb hby at_386) rfl rfl K) ?_
  show OwnG p e below s _ _ _ (T31.setTop (mkF m 388 _ [(.ref dd), (.int ((((1 : Int32) <<< (r0 &&& 31)) ||| ((1 : Int32) <<< (r1 &&& 31))) ||| ((1 : Int32) <<< (r2 &&& 31))))]))
  refine own_by (fun _ K => XS.iloadN X31.here hx rfl (hb hby at_388) rfl K) ?_
  show OwnG p e below s _ _ _ (T31.setTop (mkF m 389 _ [(.int 3), (.ref dd), (.int ((((1 : Int32) <<< (r0 &&& 31)) ||| ((1 : Int32) <<< (r1 &&& 31))) ||| ((1 : Int32) <<< (r2 &&& 31))))]))
  refine own_by (fun _ K => XS.iconst X31.here hx rfl (hb hby at_389) K) ?_
  show OwnG p e below s _ _ _ (T31.setTop (mkF m 390 _ [(.int 3), (.int 3), (.ref dd), (.int ((((1 : Int32) <<< (r0 &&& 31)) ||| ((1 : Int32) <<< (r1 &&& 31))) ||| ((1 : Int32) <<< (r2 &&& 31))))]))
  obtain ⟨_, _, ⟨T36, L36, k36, n36⟩, -, X36, ⟨Lc36, hQ36, l36, y36, z36⟩, st36⟩ := Jvm.LawKit.callS X31 hx (y := (⟨"com/example/etsinta/etsinta/search/BestRankPinLaw", "bit", "([III)I"⟩ : MethodName)) hown (mvT hZ (own_w hw 36 rfl)) (mvT hZ (own_w hw 37 rfl)) (mvT hZ (own_w hw 34 rfl)) (mvT hZ (own_w hw 38 rfl)) (by decide) (backOf (W := 1) (rm6z l Z a0 hw [] dd (3 : Int32) (3 : Int32) T31.heap n0 sz31 (by decide)) hZ (own_w hw 38 rfl) (own_w hw 34 rfl) (by decide) (by decide)) (g := (mkF m 390 #[.val (.int cnt), .val (.int sb), .val (.int pb), .val (.int 3), .val (.ref ss), .val (.ref pa), .val (.ref dd), .val (.ref cc), .val (.ref ob), .val (.int 1), .unset] [(.int 3), (.int 3), (.ref dd), (.int ((((1 : Int32) <<< (r0 &&& 31)) ||| ((1 : Int32) <<< (r1 &&& 31))) ||| ((1 : Int32) <<< (r2 &&& 31))))])) rfl (by rw [hml]; rfl) (argsL := [(.ref dd), (.int 3), (.int 3)]) (rest := [(.int ((((1 : Int32) <<< (r0 &&& 31)) ||| ((1 : Int32) <<< (r1 &&& 31))) ||| ((1 : Int32) <<< (r2 &&& 31))))]) (lenOf pd_12 rfl) rfl (by show 2 * 0 + _ ≤ _; exact Nat.le_of_eq rfl) (hb hby at_390) (fun _ _ => ⟨rfl, (rfl : T31.heap = T31.heap), (by decide : 0 + 1 + 1 + 1 + 1 + 1 + 2 + 0 ≤ _), (by decide : 0 + 4 + 4 + 4 + 4 + 5 + 32 + 0 ≤ _)⟩)
  dsimp only [Pt.U, Pt.locs, Pt.cells, Pt.slots] at X36 l36 y36 z36 st36 hQ36
  subst l36 y36 z36
  refine own_by (fun _ K => st36 _ K) ?_
  obtain ⟨rfl, N36q, hh36⟩ := hQ36
  have N36 := Fr.app N31 N36q
  have f37 := f32
  rw [← hh36] at f37
  have f38 := f33
  rw [← hh36] at f38
  have f39 := f34
  rw [← hh36] at f39
  have f40 := f35
  rw [← hh36] at f40
  have sz36 : n0 ≤ T36.heap.size := by rw [hh36]; exact sz31
  show OwnG p e below s _ _ _ (T36.setTop (mkF m 393 _ [(.int 0), (.int ((((1 : Int32) <<< (r0 &&& 31)) ||| ((1 : Int32) <<< (r1 &&& 31))) ||| ((1 : Int32) <<< (r2 &&& 31))))]))
  refine own_by (fun _ K => XS.ior X36.here hx rfl (hb hby at_393) rfl K) ?_
  show OwnG p e below s _ _ _ (T36.setTop (mkF m 394 _ [(.int (((((1 : Int32) <<< (r0 &&& 31)) ||| ((1 : Int32) <<< (r1 &&& 31))) ||| ((1 : Int32) <<< (r2 &&& 31))) ||| (0 : Int32)))]))
  refine own_by (fun _ K => XS.istore X36.here hx rfl (hb hby at_394) rfl (l' := #[.val (.int cnt), .val (.int sb), .val (.int pb), .val (.int 3), .val (.ref ss), .val (.ref pa), .val (.ref dd), .val (.ref cc), .val (.ref ob), .val (.int 1), .val (.int (((((1 : Int32) <<< (r0 &&& 31)) ||| ((1 : Int32) <<< (r1 &&& 31))) ||| ((1 : Int32) <<< (r2 &&& 31))) ||| (0 : Int32)))]) rfl K) ?_
  show OwnG p e below s _ _ _ (T36.setTop (mkF m 396 _ []))
  refine own_by (fun _ K => XS.iload X36.here hx rfl (hb hby at_396) rfl K) ?_
  show OwnG p e below s _ _ _ (T36.setTop (mkF m 398 _ [(.int (((((1 : Int32) <<< (r0 &&& 31)) ||| ((1 : Int32) <<< (r1 &&& 31))) ||| ((1 : Int32) <<< (r2 &&& 31))) ||| (0 : Int32)))]))
  refine own_by (fun _ K => XS.iconst X36.here hx rfl (hb hby at_398) K) ?_
  show OwnG p e below s _ _ _ (T36.setTop (mkF m 399 _ [(.int 1), (.int (((((1 : Int32) <<< (r0 &&& 31)) ||| ((1 : Int32) <<< (r1 &&& 31))) ||| ((1 : Int32) <<< (r2 &&& 31))) ||| (0 : Int32)))]))
  refine own_by (fun _ K => XS.iloadN X36.here hx rfl (hb hby at_399) rfl K) ?_
  show OwnG p e below s _ _ _ (T36.setTop (mkF m 400 _ [(.int 3), (.int 1), (.int (((((1 : Int32) <<< (r0 &&& 31)) ||| ((1 : Int32) <<< (r1 &&& 31))) ||| ((1 : Int32) <<< (r2 &&& 31))) ||| (0 : Int32)))]))
  refine own_by (fun _ K => XS.ishl X36.here hx rfl (hb hby at_400) rfl K) ?_
  show OwnG p e below s _ _ _ (T36.setTop (mkF m 401 _ [(.int ((1 : Int32) <<< ((3 : Int32) &&& 31))), (.int (((((1 : Int32) <<< (r0 &&& 31)) ||| ((1 : Int32) <<< (r1 &&& 31))) ||| ((1 : Int32) <<< (r2 &&& 31))) ||| (0 : Int32)))]))
  refine own_by (fun _ K => XS.iconst X36.here hx rfl (hb hby at_401) K) ?_
  show OwnG p e below s _ _ _ (T36.setTop (mkF m 402 _ [(.int 1), (.int ((1 : Int32) <<< ((3 : Int32) &&& 31))), (.int (((((1 : Int32) <<< (r0 &&& 31)) ||| ((1 : Int32) <<< (r1 &&& 31))) ||| ((1 : Int32) <<< (r2 &&& 31))) ||| (0 : Int32)))]))
  refine own_by (fun _ K => XS.isub X36.here hx rfl (hb hby at_402) rfl K) ?_
  show OwnG p e below s _ _ _ (T36.setTop (mkF m 403 _ [(.int (((1 : Int32) <<< ((3 : Int32) &&& 31)) - (1 : Int32))), (.int (((((1 : Int32) <<< (r0 &&& 31)) ||| ((1 : Int32) <<< (r1 &&& 31))) ||| ((1 : Int32) <<< (r2 &&& 31))) ||| (0 : Int32)))]))
  refine own_by (fun _ K => XS.icmpYes X36.here hx rfl (pc0 := 403) (pc' := 408) rfl (hb hby at_403) rfl (teq hm).1 (by decide) (by decide) K) ?_
  show OwnG p e below s _ _ _ (T36.setTop (mkF m 408 _ []))
  exact own_o3 cnt sb pb _ sv pl ob pa ss dd cc fp fss fdd fcc r0 r1 r2 X36 hx hby hml hret hlk hown hnm hZ hw (rfl : T36.heap = T36.heap) N36 sz36 f37 f38 f39 f40 hP hss k_r0 k_r1 k_r2 v1_0 v1_1 v1_2 v2_0 v2_1 v2_2 hb0 hb1 hb2 ho0 ho1 hm
set_option maxRecDepth 65536 in
set_option maxHeartbeats 40000000 in
theorem own_r3 {p : Program} {l : Launch} {e : Env} {s : State} {m : MethodId} {args : Array Value} {below : List Frame} {meth : Method} {c : Code} {T0 : State} {locs : List Loc} {Z : State} {a0 : Array Value} {h0 : Heap} {n0 : Nat} (cnt sb pb : Int32) (sv pl : Int32 → Int32) (ob sa da pa ss dd cc : Addr) (fd fs fp fss : Nat → Value) (r0 r1 r2 : Int32) (X0 : Stand p l e room_1 s m args below meth c T0 locs (0 + 1 + 1 + 1 + 1 + 1 + 2) (0 + 4 + 4 + 4 + 4 + 5 + 32)) (hx : p.tables.exec = Jvm.exec) (hby : c.code = code) (hml : c.maxLocals = 11) (hret : meth.sig.returnType = some .boolean) (hlk : meth.locks = false) (hown : s.vm.findClass "com/example/etsinta/etsinta/search/BestRankPinLaw" = some m.cls) (hnm : meth.name = "law") (hZ : Z.Warmed39 s.vm) (hw : ∀ d ∈ tables_1, d.before a0 Z = true) (e0 : T0.heap = h0) (N0 : Fr n0 locs) (Z0 : n0 ≤ h0.size) (Sb : own_S Z h0 ob sa da pa (3 : Int32) fd fs fp) (Nn : own_N n0 ob sa da pa) (Mm : own_M ob sa da pa ss dd cc) (hP : own_P pl fp) (hss : ∀ d, own_ok d → fss d.toNatClampNeg = .double (FP.i2d (sv d))) (As : OwnA Z h0 ss .double 4 fss) (Ad : OwnA Z h0 dd .int 4 (fun _ => (defaultValue .int))) (Ac : OwnA Z h0 cc .double 4 (fun _ => (defaultValue .double))) (gd : n0 ≤ dd) (gc : n0 ≤ cc) (t0 : own_at sv fd fs 0 r0) (t1 : own_at sv fd fs 1 r1) (t2 : own_at sv fd fs 2 r2) (hb0 : ¬ r0 < 0 ∧ r0 < (3 : Int32)) (hb1 : ¬ r1 < 0 ∧ r1 < (3 : Int32)) (hb2 : ¬ r2 < 0 ∧ r2 < (3 : Int32)) (ho0 : ¬ own_K sv pl r0 < own_K sv pl r1) (ho1 : ¬ own_K sv pl r1 < own_K sv pl r2) (hm : ((((1 : Int32) <<< (r0 &&& 31)) ||| ((1 : Int32) <<< (r1 &&& 31))) ||| ((1 : Int32) <<< (r2 &&& 31))) ||| (0 : Int32) = ((1 : Int32) <<< ((3 : Int32) &&& 31)) - (1 : Int32)) :
    OwnG p e below s (fun v h L => v = some (.int 1) ∧ Fr n0 L) room_1.cells room_1.slots (T0.setTop (mkF m 194 #[.val (.int cnt), .val (.int sb), .val (.int pb), .val (.int 3), .val (.ref ss), .val (.ref pa), .val (.ref dd), .val (.ref cc), .val (.ref ob), .unset, .unset] [])) := by
  show OwnG p e below s _ _ _ (T0.setTop (mkF m 194 #[.val (.int cnt), .val (.int sb), .val (.int pb), .val (.int 3), .val (.ref ss), .val (.ref pa), .val (.ref dd), .val (.ref cc), .val (.ref ob), .unset, .unset] []))
  refine own_by (fun _ K => XS.iloadN X0.here hx rfl (hb hby at_194) rfl K) ?_
  show OwnG p e below s _ _ _ (T0.setTop (mkF m 195 _ [(.int 3)]))
  refine own_by (fun _ K => XS.ifNo X0.here hx rfl (hb hby at_195) rfl ((if0 _ _).trans (tlt (by decide)).2.2.2) K) ?_
  show OwnG p e below s _ _ _ (T0.setTop (mkF m 198 _ []))
  refine own_by (fun _ K => XS.aload X0.here hx rfl (hb hby at_198) rfl rfl K) ?_
  show OwnG p e below s _ _ _ (T0.setTop (mkF m 200 _ [(.ref dd)]))
  refine own_by (fun _ K => XS.iconst X0.here hx rfl (hb hby at_200) K) ?_
  show OwnG p e below s _ _ _ (T0.setTop (mkF m 201 _ [(.int 0), (.ref dd)]))
  refine own_by (fun _ K => XS.aload X0.here hx rfl (hb hby at_201) rfl rfl K) ?_
  show OwnG p e below s _ _ _ (T0.setTop (mkF m 203 _ [(.ref ob), (.int 0), (.ref dd)]))
  refine own_by (fun _ K => XS.iconst X0.here hx rfl (hb hby at_203) K) ?_
  show OwnG p e below s _ _ _ (T0.setTop (mkF m 204 _ [(.int 0), (.ref ob), (.int 0), (.ref dd)]))
  obtain ⟨cq1, kq1, q1a, q1b, q1c⟩ := isOf hZ e0 Sb.1
  obtain ⟨_, _, ⟨T1, L1, k1, n1⟩, -, X1, ⟨Lc1, hQ1, l1, y1, z1⟩, st1⟩ := X0.virtualBack hx (y := (⟨"com/example/etsinta/etsinta/search/Best", "document", "(I)I"⟩ : MethodName)) (z := (⟨"com/example/etsinta/etsinta/search/Best", "document", "(I)I"⟩ : MethodName)) hown (mvT hZ (own_w hw 51 rfl)) (mvT hZ (own_w hw 52 rfl)) (notFace_of_selects (args := #[]) (mvT hZ (own_w hw 54 rfl))) (mvT hZ (own_w hw 54 rfl)) (mvT hZ (own_w hw 53 rfl)) (by decide) (backOf (W := 2) (rm10 l Z a0 hw [] ob sa da pa (3 : Int32) fd fs fp (0 : Int32) 0 r0 h0 n0 Z0 ⟨Sb.1, Sb.2.1, Sb.2.2.1, Sb.2.2.2.1, Sb.2.2.2.2.1, Sb.2.2.2.2.2.1, Sb.2.2.2.2.2.2.1, Sb.2.2.2.2.2.2.2.1, Sb.2.2.2.2.2.2.2.2⟩ ⟨by decide, rfl, by decide⟩ (by decide) t0.1) hZ (own_w hw 55 rfl) (own_w hw 5 rfl) (by decide) (by decide)) q1a q1c (g := (mkF m 204 #[.val (.int cnt), .val (.int sb), .val (.int pb), .val (.int 3), .val (.ref ss), .val (.ref pa), .val (.ref dd), .val (.ref cc), .val (.ref ob), .unset, .unset] [(.int 0), (.ref ob), (.int 0), (.ref dd)])) rfl (by rw [hml]; rfl) (Steps.refl _) (argsL := [(.int 0)]) (rest := [(.int 0), (.ref dd)]) (lenOf pd_9 rfl) rfl (by show 2 * 0 + _ ≤ _; exact Nat.le_of_eq rfl) (hb hby at_204) (fun _ _ => ⟨rfl, e0, (by decide : 0 + 1 + 1 + 1 + 1 + 1 + 2 + 0 ≤ _), (by decide : 0 + 4 + 4 + 4 + 4 + 5 + 32 + 0 ≤ _)⟩)
  dsimp only [Pt.U, Pt.locs, Pt.cells, Pt.slots] at X1 l1 y1 z1 st1 hQ1
  subst l1 y1 z1
  refine own_by (fun _ K => st1.trans K) ?_
  obtain ⟨rfl, N1q, hh1⟩ := hQ1
  have N1 := Fr.app N0 N1q
  have f2 := Sb.1
  rw [← hh1] at f2
  have f3 := Sb.2.1
  rw [← hh1] at f3
  have f4 := Sb.2.2.1
  rw [← hh1] at f4
  have f5 := Sb.2.2.2.1
  rw [← hh1] at f5
  have f6 := Sb.2.2.2.2.1
  rw [← hh1] at f6
  have f7 := Sb.2.2.2.2.2.1
  rw [← hh1] at f7
  have f8 := Sb.2.2.2.2.2.2.1
  rw [← hh1] at f8
  have f9 := Sb.2.2.2.2.2.2.2.1
  rw [← hh1] at f9
  have f10 := Sb.2.2.2.2.2.2.2.2
  rw [← hh1] at f10
  have f11 := As
  rw [← hh1] at f11
  have f12 := Ad
  rw [← hh1] at f12
  have f13 := Ac
  rw [← hh1] at f13
  have sz1 : n0 ≤ T1.heap.size := by rw [hh1]; exact Z0
  show OwnG p e below s _ _ _ (T1.setTop (mkF m 207 _ [(.int r0), (.int 0), (.ref dd)]))
  obtain ⟨T14, h14, X14, e14, W14, A14, st14⟩ := own_stI X1 hx hZ (rfl : T1.heap = T1.heap) f12 (j := (0 : Int32)) (i := 0) ⟨by decide, rfl, by decide⟩ (g := (mkF m 207 #[.val (.int cnt), .val (.int sb), .val (.int pb), .val (.int 3), .val (.ref ss), .val (.ref pa), .val (.ref dd), .val (.ref cc), .val (.ref ob), .unset, .unset] [(.int r0), (.int 0), (.ref dd)])) rfl rfl (hb hby at_207)
  refine own_by (fun _ K => st14 _ K) ?_
  have f15 := Exa.wr W14 f2
  have f16 := Fld.other W14 f3 (Or.inl (Ne.symm Mm.2.2.2.1))
  have f17 := Fld.other W14 f4 (Or.inl (Ne.symm Mm.2.2.2.1))
  have f18 := Fld.other W14 f5 (Or.inl (Ne.symm Mm.2.2.2.1))
  have f19 := Fld.other W14 f6 (Or.inl (Ne.symm Mm.2.2.2.1))
  have f20 := Fld.other W14 f7 (Or.inl (Ne.symm Mm.2.2.2.1))
  have f21 := OwnA.other W14 f8 (Ne.symm Mm.2.2.2.2.2.1)
  have f22 := OwnA.other W14 f9 (Ne.symm Mm.2.2.2.2.1)
  have f23 := OwnA.other W14 f10 Mm.2.2.2.2.2.2.2.2.2.2.1
  have f24 := OwnA.other W14 f11 Mm.2.2.2.2.2.2.2.2.2.1
  have f26 := OwnA.other W14 f13 (Ne.symm Mm.2.2.2.2.2.2.2.2.2.2.2.2.2)
  have N14 := Fr.snoc X14 N1 gd
  have sz14 : n0 ≤ h14.size := by rw [W14.size]; exact sz1
  show OwnG p e below s _ _ _ (T14.setTop (mkF m 208 _ []))
  refine own_by (fun _ K => XS.aload X14.here hx rfl (hb hby at_208) rfl rfl K) ?_
  show OwnG p e below s _ _ _ (T14.setTop (mkF m 210 _ [(.ref cc)]))
  refine own_by (fun _ K => XS.iconst X14.here hx rfl (hb hby at_210) K) ?_
  show OwnG p e below s _ _ _ (T14.setTop (mkF m 211 _ [(.int 0), (.ref cc)]))
  refine own_by (fun _ K => XS.aload X14.here hx rfl (hb hby at_211) rfl rfl K) ?_
  show OwnG p e below s _ _ _ (T14.setTop (mkF m 213 _ [(.ref ob), (.int 0), (.ref cc)]))
  refine own_by (fun _ K => XS.iconst X14.here hx rfl (hb hby at_213) K) ?_
  show OwnG p e below s _ _ _ (T14.setTop (mkF m 214 _ [(.int 0), (.ref ob), (.int 0), (.ref cc)]))
  obtain ⟨cq27, kq27, q27a, q27b, q27c⟩ := isOf hZ e14 f15
  obtain ⟨_, _, ⟨T27, L27, k27, n27⟩, -, X27, ⟨Lc27, hQ27, l27, y27, z27⟩, st27⟩ := X14.virtualBack hx (y := (⟨"com/example/etsinta/etsinta/search/Best", "score", "(I)D"⟩ : MethodName)) (z := (⟨"com/example/etsinta/etsinta/search/Best", "score", "(I)D"⟩ : MethodName)) hown (mvT hZ (own_w hw 64 rfl)) (mvT hZ (own_w hw 65 rfl)) (notFace_of_selects (args := #[]) (mvT hZ (own_w hw 67 rfl))) (mvT hZ (own_w hw 67 rfl)) (mvT hZ (own_w hw 66 rfl)) (by decide) (backOf (W := 2) (rm13 l Z a0 hw [] ob sa da pa (3 : Int32) fd fs fp (0 : Int32) 0 (FP.i2d (sv r0)) h14 n0 sz14 ⟨f15, f16, f17, f18, f19, f20, f21, f22, f23⟩ ⟨by decide, rfl, by decide⟩ (by decide) t0.2.1) hZ (own_w hw 68 rfl) (own_w hw 5 rfl) (by decide) (by decide)) q27a q27c (g := (mkF m 214 #[.val (.int cnt), .val (.int sb), .val (.int pb), .val (.int 3), .val (.ref ss), .val (.ref pa), .val (.ref dd), .val (.ref cc), .val (.ref ob), .unset, .unset] [(.int 0), (.ref ob), (.int 0), (.ref cc)])) rfl (by rw [hml]; rfl) (Steps.refl _) (argsL := [(.int 0)]) (rest := [(.int 0), (.ref cc)]) (lenOf pd_10 rfl) rfl (by show 2 * 0 + _ ≤ _; exact Nat.le_of_eq rfl) (hb hby at_214) (fun _ _ => ⟨rfl, e14, (by decide : 0 + 1 + 1 + 1 + 1 + 1 + 2 + 0 ≤ _), (by decide : 0 + 4 + 4 + 4 + 4 + 5 + 32 + 0 ≤ _)⟩)
  dsimp only [Pt.U, Pt.locs, Pt.cells, Pt.slots] at X27 l27 y27 z27 st27 hQ27
  subst l27 y27 z27
  refine own_by (fun _ K => st27.trans K) ?_
  obtain ⟨rfl, N27q, hh27⟩ := hQ27
  have N27 := Fr.app N14 N27q
  have f28 := f15
  rw [← hh27] at f28
  have f29 := f16
  rw [← hh27] at f29
  have f30 := f17
  rw [← hh27] at f30
  have f31 := f18
  rw [← hh27] at f31
  have f32 := f19
  rw [← hh27] at f32
  have f33 := f20
  rw [← hh27] at f33
  have f34 := f21
  rw [← hh27] at f34
  have f35 := f22
  rw [← hh27] at f35
  have f36 := f23
  rw [← hh27] at f36
  have f37 := f24
  rw [← hh27] at f37
  have f38 := A14
  rw [← hh27] at f38
  have f39 := f26
  rw [← hh27] at f39
  have sz27 : n0 ≤ T27.heap.size := by rw [hh27]; exact sz14
  show OwnG p e below s _ _ _ (T27.setTop (mkF m 217 _ [(.double (FP.i2d (sv r0))), (.int 0), (.ref cc)]))
  obtain ⟨T40, h40, X40, e40, W40, A40, st40⟩ := own_stD X27 hx hZ (rfl : T27.heap = T27.heap) f39 (j := (0 : Int32)) (i := 0) ⟨by decide, rfl, by decide⟩ (g := (mkF m 217 #[.val (.int cnt), .val (.int sb), .val (.int pb), .val (.int 3), .val (.ref ss), .val (.ref pa), .val (.ref dd), .val (.ref cc), .val (.ref ob), .unset, .unset] [(.double (FP.i2d (sv r0))), (.int 0), (.ref cc)])) rfl rfl (hb hby at_217)
  refine own_by (fun _ K => st40 _ K) ?_
  have f41 := Exa.wr W40 f28
  have f42 := Fld.other W40 f29 (Or.inl (Ne.symm Mm.2.2.2.2.2.2.1))
  have f43 := Fld.other W40 f30 (Or.inl (Ne.symm Mm.2.2.2.2.2.2.1))
  have f44 := Fld.other W40 f31 (Or.inl (Ne.symm Mm.2.2.2.2.2.2.1))
  have f45 := Fld.other W40 f32 (Or.inl (Ne.symm Mm.2.2.2.2.2.2.1))
  have f46 := Fld.other W40 f33 (Or.inl (Ne.symm Mm.2.2.2.2.2.2.1))
  have f47 := OwnA.other W40 f34 (Ne.symm Mm.2.2.2.2.2.2.2.2.1)
  have f48 := OwnA.other W40 f35 (Ne.symm Mm.2.2.2.2.2.2.2.1)
  have f49 := OwnA.other W40 f36 Mm.2.2.2.2.2.2.2.2.2.2.2.2.1
  have f50 := OwnA.other W40 f37 Mm.2.2.2.2.2.2.2.2.2.2.2.1
  have f51 := OwnA.other W40 f38 Mm.2.2.2.2.2.2.2.2.2.2.2.2.2
  have N40 := Fr.snoc X40 N27 gc
  have sz40 : n0 ≤ h40.size := by rw [W40.size]; exact sz27
  show OwnG p e below s _ _ _ (T40.setTop (mkF m 218 _ []))
  refine own_by (fun _ K => XS.iloadN X40.here hx rfl (hb hby at_218) rfl K) ?_
  show OwnG p e below s _ _ _ (T40.setTop (mkF m 219 _ [(.int 3)]))
  refine own_by (fun _ K => XS.iconst X40.here hx rfl (hb hby at_219) K) ?_
  show OwnG p e below s _ _ _ (T40.setTop (mkF m 220 _ [(.int 1), (.int 3)]))
  refine own_by (fun _ K => XS.icmpNo X40.here hx rfl (hb hby at_220) rfl (tlt (by decide)).2.2.2 K) ?_
  show OwnG p e below s _ _ _ (T40.setTop (mkF m 223 _ []))
  refine own_by (fun _ K => XS.aload X40.here hx rfl (hb hby at_223) rfl rfl K) ?_
  show OwnG p e below s _ _ _ (T40.setTop (mkF m 225 _ [(.ref dd)]))
  refine own_by (fun _ K => XS.iconst X40.here hx rfl (hb hby at_225) K) ?_
  show OwnG p e below s _ _ _ (T40.setTop (mkF m 226 _ [(.int 1), (.ref dd)]))
  refine own_by (fun _ K => XS.aload X40.here hx rfl (hb hby at_226) rfl rfl K) ?_
  show OwnG p e below s _ _ _ (T40.setTop (mkF m 228 _ [(.ref ob), (.int 1), (.ref dd)]))
  refine own_by (fun _ K => XS.iconst X40.here hx rfl (hb hby at_228) K) ?_
  show OwnG p e below s _ _ _ (T40.setTop (mkF m 229 _ [(.int 1), (.ref ob), (.int 1), (.ref dd)]))
  obtain ⟨cq53, kq53, q53a, q53b, q53c⟩ := isOf hZ e40 f41
  obtain ⟨_, _, ⟨T53, L53, k53, n53⟩, -, X53, ⟨Lc53, hQ53, l53, y53, z53⟩, st53⟩ := X40.virtualBack hx (y := (⟨"com/example/etsinta/etsinta/search/Best", "document", "(I)I"⟩ : MethodName)) (z := (⟨"com/example/etsinta/etsinta/search/Best", "document", "(I)I"⟩ : MethodName)) hown (mvT hZ (own_w hw 51 rfl)) (mvT hZ (own_w hw 52 rfl)) (notFace_of_selects (args := #[]) (mvT hZ (own_w hw 54 rfl))) (mvT hZ (own_w hw 54 rfl)) (mvT hZ (own_w hw 53 rfl)) (by decide) (backOf (W := 2) (rm10 l Z a0 hw [] ob sa da pa (3 : Int32) fd fs fp (1 : Int32) 1 r1 h40 n0 sz40 ⟨f41, f42, f43, f44, f45, f46, f47, f48, f49⟩ ⟨by decide, rfl, by decide⟩ (by decide) t1.1) hZ (own_w hw 55 rfl) (own_w hw 5 rfl) (by decide) (by decide)) q53a q53c (g := (mkF m 229 #[.val (.int cnt), .val (.int sb), .val (.int pb), .val (.int 3), .val (.ref ss), .val (.ref pa), .val (.ref dd), .val (.ref cc), .val (.ref ob), .unset, .unset] [(.int 1), (.ref ob), (.int 1), (.ref dd)])) rfl (by rw [hml]; rfl) (Steps.refl _) (argsL := [(.int 1)]) (rest := [(.int 1), (.ref dd)]) (lenOf pd_9 rfl) rfl (by show 2 * 0 + _ ≤ _; exact Nat.le_of_eq rfl) (hb hby at_229) (fun _ _ => ⟨rfl, e40, (by decide : 0 + 1 + 1 + 1 + 1 + 1 + 2 + 0 ≤ _), (by decide : 0 + 4 + 4 + 4 + 4 + 5 + 32 + 0 ≤ _)⟩)
  dsimp only [Pt.U, Pt.locs, Pt.cells, Pt.slots] at X53 l53 y53 z53 st53 hQ53
  subst l53 y53 z53
  refine own_by (fun _ K => st53.trans K) ?_
  obtain ⟨rfl, N53q, hh53⟩ := hQ53
  have N53 := Fr.app N40 N53q
  have f54 := f41
  rw [← hh53] at f54
  have f55 := f42
  rw [← hh53] at f55
  have f56 := f43
  rw [← hh53] at f56
  have f57 := f44
  rw [← hh53] at f57
  have f58 := f45
  rw [← hh53] at f58
  have f59 := f46
  rw [← hh53] at f59
  have f60 := f47
  rw [← hh53] at f60
  have f61 := f48
  rw [← hh53] at f61
  have f62 := f49
  rw [← hh53] at f62
  have f63 := f50
  rw [← hh53] at f63
  have f64 := f51
  rw [← hh53] at f64
  have f65 := A40
  rw [← hh53] at f65
  have sz53 : n0 ≤ T53.heap.size := by rw [hh53]; exact sz40
  show OwnG p e below s _ _ _ (T53.setTop (mkF m 232 _ [(.int r1), (.int 1), (.ref dd)]))
  obtain ⟨T66, h66, X66, e66, W66, A66, st66⟩ := own_stI X53 hx hZ (rfl : T53.heap = T53.heap) f64 (j := (1 : Int32)) (i := 1) ⟨by decide, rfl, by decide⟩ (g := (mkF m 232 #[.val (.int cnt), .val (.int sb), .val (.int pb), .val (.int 3), .val (.ref ss), .val (.ref pa), .val (.ref dd), .val (.ref cc), .val (.ref ob), .unset, .unset] [(.int r1), (.int 1), (.ref dd)])) rfl rfl (hb hby at_232)
  refine own_by (fun _ K => st66 _ K) ?_
  have f67 := Exa.wr W66 f54
  have f68 := Fld.other W66 f55 (Or.inl (Ne.symm Mm.2.2.2.1))
  have f69 := Fld.other W66 f56 (Or.inl (Ne.symm Mm.2.2.2.1))
  have f70 := Fld.other W66 f57 (Or.inl (Ne.symm Mm.2.2.2.1))
  have f71 := Fld.other W66 f58 (Or.inl (Ne.symm Mm.2.2.2.1))
  have f72 := Fld.other W66 f59 (Or.inl (Ne.symm Mm.2.2.2.1))
  have f73 := OwnA.other W66 f60 (Ne.symm Mm.2.2.2.2.2.1)
  have f74 := OwnA.other W66 f61 (Ne.symm Mm.2.2.2.2.1)
  have f75 := OwnA.other W66 f62 Mm.2.2.2.2.2.2.2.2.2.2.1
  have f76 := OwnA.other W66 f63 Mm.2.2.2.2.2.2.2.2.2.1
  have f78 := OwnA.other W66 f65 (Ne.symm Mm.2.2.2.2.2.2.2.2.2.2.2.2.2)
  have N66 := Fr.snoc X66 N53 gd
  have sz66 : n0 ≤ h66.size := by rw [W66.size]; exact sz53
  show OwnG p e below s _ _ _ (T66.setTop (mkF m 233 _ []))
  refine own_by (fun _ K => XS.aload X66.here hx rfl (hb hby at_233) rfl rfl K) ?_
  show OwnG p e below s _ _ _ (T66.setTop (mkF m 235 _ [(.ref cc)]))
  refine own_by (fun _ K => XS.iconst X66.here hx rfl (hb hby at_235) K) ?_
  show OwnG p e below s _ _ _ (T66.setTop (mkF m 236 _ [(.int 1), (.ref cc)]))
  refine own_by (fun _ K => XS.aload X66.here hx rfl (hb hby at_236) rfl rfl K) ?_
  show OwnG p e below s _ _ _ (T66.setTop (mkF m 238 _ [(.ref ob), (.int 1), (.ref cc)]))
  refine own_by (fun _ K => XS.iconst X66.here hx rfl (hb hby at_238) K) ?_
  show OwnG p e below s _ _ _ (T66.setTop (mkF m 239 _ [(.int 1), (.ref ob), (.int 1), (.ref cc)]))
  obtain ⟨cq79, kq79, q79a, q79b, q79c⟩ := isOf hZ e66 f67
  obtain ⟨_, _, ⟨T79, L79, k79, n79⟩, -, X79, ⟨Lc79, hQ79, l79, y79, z79⟩, st79⟩ := X66.virtualBack hx (y := (⟨"com/example/etsinta/etsinta/search/Best", "score", "(I)D"⟩ : MethodName)) (z := (⟨"com/example/etsinta/etsinta/search/Best", "score", "(I)D"⟩ : MethodName)) hown (mvT hZ (own_w hw 64 rfl)) (mvT hZ (own_w hw 65 rfl)) (notFace_of_selects (args := #[]) (mvT hZ (own_w hw 67 rfl))) (mvT hZ (own_w hw 67 rfl)) (mvT hZ (own_w hw 66 rfl)) (by decide) (backOf (W := 2) (rm13 l Z a0 hw [] ob sa da pa (3 : Int32) fd fs fp (1 : Int32) 1 (FP.i2d (sv r1)) h66 n0 sz66 ⟨f67, f68, f69, f70, f71, f72, f73, f74, f75⟩ ⟨by decide, rfl, by decide⟩ (by decide) t1.2.1) hZ (own_w hw 68 rfl) (own_w hw 5 rfl) (by decide) (by decide)) q79a q79c (g := (mkF m 239 #[.val (.int cnt), .val (.int sb), .val (.int pb), .val (.int 3), .val (.ref ss), .val (.ref pa), .val (.ref dd), .val (.ref cc), .val (.ref ob), .unset, .unset] [(.int 1), (.ref ob), (.int 1), (.ref cc)])) rfl (by rw [hml]; rfl) (Steps.refl _) (argsL := [(.int 1)]) (rest := [(.int 1), (.ref cc)]) (lenOf pd_10 rfl) rfl (by show 2 * 0 + _ ≤ _; exact Nat.le_of_eq rfl) (hb hby at_239) (fun _ _ => ⟨rfl, e66, (by decide : 0 + 1 + 1 + 1 + 1 + 1 + 2 + 0 ≤ _), (by decide : 0 + 4 + 4 + 4 + 4 + 5 + 32 + 0 ≤ _)⟩)
  dsimp only [Pt.U, Pt.locs, Pt.cells, Pt.slots] at X79 l79 y79 z79 st79 hQ79
  subst l79 y79 z79
  refine own_by (fun _ K => st79.trans K) ?_
  obtain ⟨rfl, N79q, hh79⟩ := hQ79
  have N79 := Fr.app N66 N79q
  have f80 := f67
  rw [← hh79] at f80
  have f81 := f68
  rw [← hh79] at f81
  have f82 := f69
  rw [← hh79] at f82
  have f83 := f70
  rw [← hh79] at f83
  have f84 := f71
  rw [← hh79] at f84
  have f85 := f72
  rw [← hh79] at f85
  have f86 := f73
  rw [← hh79] at f86
  have f87 := f74
  rw [← hh79] at f87
  have f88 := f75
  rw [← hh79] at f88
  have f89 := f76
  rw [← hh79] at f89
  have f90 := A66
  rw [← hh79] at f90
  have f91 := f78
  rw [← hh79] at f91
  have sz79 : n0 ≤ T79.heap.size := by rw [hh79]; exact sz66
  show OwnG p e below s _ _ _ (T79.setTop (mkF m 242 _ [(.double (FP.i2d (sv r1))), (.int 1), (.ref cc)]))
  obtain ⟨T92, h92, X92, e92, W92, A92, st92⟩ := own_stD X79 hx hZ (rfl : T79.heap = T79.heap) f91 (j := (1 : Int32)) (i := 1) ⟨by decide, rfl, by decide⟩ (g := (mkF m 242 #[.val (.int cnt), .val (.int sb), .val (.int pb), .val (.int 3), .val (.ref ss), .val (.ref pa), .val (.ref dd), .val (.ref cc), .val (.ref ob), .unset, .unset] [(.double (FP.i2d (sv r1))), (.int 1), (.ref cc)])) rfl rfl (hb hby at_242)
  refine own_by (fun _ K => st92 _ K) ?_
  have f93 := Exa.wr W92 f80
  have f94 := Fld.other W92 f81 (Or.inl (Ne.symm Mm.2.2.2.2.2.2.1))
  have f95 := Fld.other W92 f82 (Or.inl (Ne.symm Mm.2.2.2.2.2.2.1))
  have f96 := Fld.other W92 f83 (Or.inl (Ne.symm Mm.2.2.2.2.2.2.1))
  have f97 := Fld.other W92 f84 (Or.inl (Ne.symm Mm.2.2.2.2.2.2.1))
  have f98 := Fld.other W92 f85 (Or.inl (Ne.symm Mm.2.2.2.2.2.2.1))
  have f99 := OwnA.other W92 f86 (Ne.symm Mm.2.2.2.2.2.2.2.2.1)
  have f100 := OwnA.other W92 f87 (Ne.symm Mm.2.2.2.2.2.2.2.1)
  have f101 := OwnA.other W92 f88 Mm.2.2.2.2.2.2.2.2.2.2.2.2.1
  have f102 := OwnA.other W92 f89 Mm.2.2.2.2.2.2.2.2.2.2.2.1
  have f103 := OwnA.other W92 f90 Mm.2.2.2.2.2.2.2.2.2.2.2.2.2
  have N92 := Fr.snoc X92 N79 gc
  have sz92 : n0 ≤ h92.size := by rw [W92.size]; exact sz79
  show OwnG p e below s _ _ _ (T92.setTop (mkF m 243 _ []))
  refine own_by (fun _ K => XS.iloadN X92.here hx rfl (hb hby at_243) rfl K) ?_
  show OwnG p e below s _ _ _ (T92.setTop (mkF m 244 _ [(.int 3)]))
  refine own_by (fun _ K => XS.iconst X92.here hx rfl (hb hby at_244) K) ?_
  show OwnG p e below s _ _ _ (T92.setTop (mkF m 245 _ [(.int 2), (.int 3)]))
  refine own_by (fun _ K => XS.icmpNo X92.here hx rfl (hb hby at_245) rfl (tlt (by decide)).2.2.2 K) ?_
  show OwnG p e below s _ _ _ (T92.setTop (mkF m 248 _ []))
  refine own_by (fun _ K => XS.aload X92.here hx rfl (hb hby at_248) rfl rfl K) ?_
  show OwnG p e below s _ _ _ (T92.setTop (mkF m 250 _ [(.ref dd)]))
  refine own_by (fun _ K => XS.iconst X92.here hx rfl (hb hby at_250) K) ?_
  show OwnG p e below s _ _ _ (T92.setTop (mkF m 251 _ [(.int 2), (.ref dd)]))
  refine own_by (fun _ K => XS.aload X92.here hx rfl (hb hby at_251) rfl rfl K) ?_
  show OwnG p e below s _ _ _ (T92.setTop (mkF m 253 _ [(.ref ob), (.int 2), (.ref dd)]))
  refine own_by (fun _ K => XS.iconst X92.here hx rfl (hb hby at_253) K) ?_
  show OwnG p e below s _ _ _ (T92.setTop (mkF m 254 _ [(.int 2), (.ref ob), (.int 2), (.ref dd)]))
  obtain ⟨cq105, kq105, q105a, q105b, q105c⟩ := isOf hZ e92 f93
  obtain ⟨_, _, ⟨T105, L105, k105, n105⟩, -, X105, ⟨Lc105, hQ105, l105, y105, z105⟩, st105⟩ := X92.virtualBack hx (y := (⟨"com/example/etsinta/etsinta/search/Best", "document", "(I)I"⟩ : MethodName)) (z := (⟨"com/example/etsinta/etsinta/search/Best", "document", "(I)I"⟩ : MethodName)) hown (mvT hZ (own_w hw 51 rfl)) (mvT hZ (own_w hw 52 rfl)) (notFace_of_selects (args := #[]) (mvT hZ (own_w hw 54 rfl))) (mvT hZ (own_w hw 54 rfl)) (mvT hZ (own_w hw 53 rfl)) (by decide) (backOf (W := 2) (rm10 l Z a0 hw [] ob sa da pa (3 : Int32) fd fs fp (2 : Int32) 2 r2 h92 n0 sz92 ⟨f93, f94, f95, f96, f97, f98, f99, f100, f101⟩ ⟨by decide, rfl, by decide⟩ (by decide) t2.1) hZ (own_w hw 55 rfl) (own_w hw 5 rfl) (by decide) (by decide)) q105a q105c (g := (mkF m 254 #[.val (.int cnt), .val (.int sb), .val (.int pb), .val (.int 3), .val (.ref ss), .val (.ref pa), .val (.ref dd), .val (.ref cc), .val (.ref ob), .unset, .unset] [(.int 2), (.ref ob), (.int 2), (.ref dd)])) rfl (by rw [hml]; rfl) (Steps.refl _) (argsL := [(.int 2)]) (rest := [(.int 2), (.ref dd)]) (lenOf pd_9 rfl) rfl (by show 2 * 0 + _ ≤ _; exact Nat.le_of_eq rfl) (hb hby at_254) (fun _ _ => ⟨rfl, e92, (by decide : 0 + 1 + 1 + 1 + 1 + 1 + 2 + 0 ≤ _), (by decide : 0 + 4 + 4 + 4 + 4 + 5 + 32 + 0 ≤ _)⟩)
  dsimp only [Pt.U, Pt.locs, Pt.cells, Pt.slots] at X105 l105 y105 z105 st105 hQ105
  subst l105 y105 z105
  refine own_by (fun _ K => st105.trans K) ?_
  obtain ⟨rfl, N105q, hh105⟩ := hQ105
  have N105 := Fr.app N92 N105q
  have f106 := f93
  rw [← hh105] at f106
  have f107 := f94
  rw [← hh105] at f107
  have f108 := f95
  rw [← hh105] at f108
  have f109 := f96
  rw [← hh105] at f109
  have f110 := f97
  rw [← hh105] at f110
  have f111 := f98
  rw [← hh105] at f111
  have f112 := f99
  rw [← hh105] at f112
  have f113 := f100
  rw [← hh105] at f113
  have f114 := f101
  rw [← hh105] at f114
  have f115 := f102
  rw [← hh105] at f115
  have f116 := f103
  rw [← hh105] at f116
  have f117 := A92
  rw [← hh105] at f117
  have sz105 : n0 ≤ T105.heap.size := by rw [hh105]; exact sz92
  show OwnG p e below s _ _ _ (T105.setTop (mkF m 257 _ [(.int r2), (.int 2), (.ref dd)]))
  obtain ⟨T118, h118, X118, e118, W118, A118, st118⟩ := own_stI X105 hx hZ (rfl : T105.heap = T105.heap) f116 (j := (2 : Int32)) (i := 2) ⟨by decide, rfl, by decide⟩ (g := (mkF m 257 #[.val (.int cnt), .val (.int sb), .val (.int pb), .val (.int 3), .val (.ref ss), .val (.ref pa), .val (.ref dd), .val (.ref cc), .val (.ref ob), .unset, .unset] [(.int r2), (.int 2), (.ref dd)])) rfl rfl (hb hby at_257)
  refine own_by (fun _ K => st118 _ K) ?_
  have f119 := Exa.wr W118 f106
  have f120 := Fld.other W118 f107 (Or.inl (Ne.symm Mm.2.2.2.1))
  have f121 := Fld.other W118 f108 (Or.inl (Ne.symm Mm.2.2.2.1))
  have f122 := Fld.other W118 f109 (Or.inl (Ne.symm Mm.2.2.2.1))
  have f123 := Fld.other W118 f110 (Or.inl (Ne.symm Mm.2.2.2.1))
  have f124 := Fld.other W118 f111 (Or.inl (Ne.symm Mm.2.2.2.1))
  have f125 := OwnA.other W118 f112 (Ne.symm Mm.2.2.2.2.2.1)
  have f126 := OwnA.other W118 f113 (Ne.symm Mm.2.2.2.2.1)
  have f127 := OwnA.other W118 f114 Mm.2.2.2.2.2.2.2.2.2.2.1
  have f128 := OwnA.other W118 f115 Mm.2.2.2.2.2.2.2.2.2.1
  have f130 := OwnA.other W118 f117 (Ne.symm Mm.2.2.2.2.2.2.2.2.2.2.2.2.2)
  have N118 := Fr.snoc X118 N105 gd
  have sz118 : n0 ≤ h118.size := by rw [W118.size]; exact sz105
  show OwnG p e below s _ _ _ (T118.setTop (mkF m 258 _ []))
  refine own_by (fun _ K => XS.aload X118.here hx rfl (hb hby at_258) rfl rfl K) ?_
  show OwnG p e below s _ _ _ (T118.setTop (mkF m 260 _ [(.ref cc)]))
  refine own_by (fun _ K => XS.iconst X118.here hx rfl (hb hby at_260) K) ?_
  show OwnG p e below s _ _ _ (T118.setTop (mkF m 261 _ [(.int 2), (.ref cc)]))
  refine own_by (fun _ K => XS.aload X118.here hx rfl (hb hby at_261) rfl rfl K) ?_
  show OwnG p e below s _ _ _ (T118.setTop (mkF m 263 _ [(.ref ob), (.int 2), (.ref cc)]))
  refine own_by (fun _ K => XS.iconst X118.here hx rfl (hb hby at_263) K) ?_
  show OwnG p e below s _ _ _ (T118.setTop (mkF m 264 _ [(.int 2), (.ref ob), (.int 2), (.ref cc)]))
  obtain ⟨cq131, kq131, q131a, q131b, q131c⟩ := isOf hZ e118 f119
  obtain ⟨_, _, ⟨T131, L131, k131, n131⟩, -, X131, ⟨Lc131, hQ131, l131, y131, z131⟩, st131⟩ := X118.virtualBack hx (y := (⟨"com/example/etsinta/etsinta/search/Best", "score", "(I)D"⟩ : MethodName)) (z := (⟨"com/example/etsinta/etsinta/search/Best", "score", "(I)D"⟩ : MethodName)) hown (mvT hZ (own_w hw 64 rfl)) (mvT hZ (own_w hw 65 rfl)) (notFace_of_selects (args := #[]) (mvT hZ (own_w hw 67 rfl))) (mvT hZ (own_w hw 67 rfl)) (mvT hZ (own_w hw 66 rfl)) (by decide) (backOf (W := 2) (rm13 l Z a0 hw [] ob sa da pa (3 : Int32) fd fs fp (2 : Int32) 2 (FP.i2d (sv r2)) h118 n0 sz118 ⟨f119, f120, f121, f122, f123, f124, f125, f126, f127⟩ ⟨by decide, rfl, by decide⟩ (by decide) t2.2.1) hZ (own_w hw 68 rfl) (own_w hw 5 rfl) (by decide) (by decide)) q131a q131c (g := (mkF m 264 #[.val (.int cnt), .val (.int sb), .val (.int pb), .val (.int 3), .val (.ref ss), .val (.ref pa), .val (.ref dd), .val (.ref cc), .val (.ref ob), .unset, .unset] [(.int 2), (.ref ob), (.int 2), (.ref cc)])) rfl (by rw [hml]; rfl) (Steps.refl _) (argsL := [(.int 2)]) (rest := [(.int 2), (.ref cc)]) (lenOf pd_10 rfl) rfl (by show 2 * 0 + _ ≤ _; exact Nat.le_of_eq rfl) (hb hby at_264) (fun _ _ => ⟨rfl, e118, (by decide : 0 + 1 + 1 + 1 + 1 + 1 + 2 + 0 ≤ _), (by decide : 0 + 4 + 4 + 4 + 4 + 5 + 32 + 0 ≤ _)⟩)
  dsimp only [Pt.U, Pt.locs, Pt.cells, Pt.slots] at X131 l131 y131 z131 st131 hQ131
  subst l131 y131 z131
  refine own_by (fun _ K => st131.trans K) ?_
  obtain ⟨rfl, N131q, hh131⟩ := hQ131
  have N131 := Fr.app N118 N131q
  have f132 := f119
  rw [← hh131] at f132
  have f133 := f120
  rw [← hh131] at f133
  have f134 := f121
  rw [← hh131] at f134
  have f135 := f122
  rw [← hh131] at f135
  have f136 := f123
  rw [← hh131] at f136
  have f137 := f124
  rw [← hh131] at f137
  have f138 := f125
  rw [← hh131] at f138
  have f139 := f126
  rw [← hh131] at f139
  have f140 := f127
  rw [← hh131] at f140
  have f141 := f128
  rw [← hh131] at f141
  have f142 := A118
  rw [← hh131] at f142
  have f143 := f130
  rw [← hh131] at f143
  have sz131 : n0 ≤ T131.heap.size := by rw [hh131]; exact sz118
  show OwnG p e below s _ _ _ (T131.setTop (mkF m 267 _ [(.double (FP.i2d (sv r2))), (.int 2), (.ref cc)]))
  obtain ⟨T144, h144, X144, e144, W144, A144, st144⟩ := own_stD X131 hx hZ (rfl : T131.heap = T131.heap) f143 (j := (2 : Int32)) (i := 2) ⟨by decide, rfl, by decide⟩ (g := (mkF m 267 #[.val (.int cnt), .val (.int sb), .val (.int pb), .val (.int 3), .val (.ref ss), .val (.ref pa), .val (.ref dd), .val (.ref cc), .val (.ref ob), .unset, .unset] [(.double (FP.i2d (sv r2))), (.int 2), (.ref cc)])) rfl rfl (hb hby at_267)
  refine own_by (fun _ K => st144 _ K) ?_
  have f145 := Exa.wr W144 f132
  have f146 := Fld.other W144 f133 (Or.inl (Ne.symm Mm.2.2.2.2.2.2.1))
  have f147 := Fld.other W144 f134 (Or.inl (Ne.symm Mm.2.2.2.2.2.2.1))
  have f148 := Fld.other W144 f135 (Or.inl (Ne.symm Mm.2.2.2.2.2.2.1))
  have f149 := Fld.other W144 f136 (Or.inl (Ne.symm Mm.2.2.2.2.2.2.1))
  have f150 := Fld.other W144 f137 (Or.inl (Ne.symm Mm.2.2.2.2.2.2.1))
  have f151 := OwnA.other W144 f138 (Ne.symm Mm.2.2.2.2.2.2.2.2.1)
  have f152 := OwnA.other W144 f139 (Ne.symm Mm.2.2.2.2.2.2.2.1)
  have f153 := OwnA.other W144 f140 Mm.2.2.2.2.2.2.2.2.2.2.2.2.1
  have f154 := OwnA.other W144 f141 Mm.2.2.2.2.2.2.2.2.2.2.2.1
  have f155 := OwnA.other W144 f142 Mm.2.2.2.2.2.2.2.2.2.2.2.2.2
  have N144 := Fr.snoc X144 N131 gc
  have sz144 : n0 ≤ h144.size := by rw [W144.size]; exact sz131
  show OwnG p e below s _ _ _ (T144.setTop (mkF m 268 _ []))
  refine own_by (fun _ K => XS.iloadN X144.here hx rfl (hb hby at_268) rfl K) ?_
  show OwnG p e below s _ _ _ (T144.setTop (mkF m 269 _ [(.int 3)]))
  refine own_by (fun _ K => XS.iconst X144.here hx rfl (hb hby at_269) K) ?_
  show OwnG p e below s _ _ _ (T144.setTop (mkF m 270 _ [(.int 3), (.int 3)]))
  refine own_by (fun _ K => XS.icmpYes X144.here hx rfl (pc0 := 270) (pc' := 293) rfl (hb hby at_270) rfl (flt (by decide)).2.2.2 (by decide) (by decide) K) ?_
  show OwnG p e below s _ _ _ (T144.setTop (mkF m 293 _ []))
  exact own_e3 cnt sb pb 0 sv pl ob pa ss dd cc fp fss (ownSet (ownSet (ownSet (fun _ => (defaultValue .int)) 0 (.int r0)) 1 (.int r1)) 2 (.int r2)) (ownSet (ownSet (ownSet (fun _ => (defaultValue .double)) 0 (.double (FP.i2d (sv r0)))) 1 (.double (FP.i2d (sv r1)))) 2 (.double (FP.i2d (sv r2)))) r0 r1 r2 X144 hx hby hml hret hlk hown hnm hZ hw e144 N144 sz144 f153 f154 f155 A144 hP hss t0.2.2 t1.2.2 t2.2.2 ((own_sn (by decide)).trans ((own_sn (by decide)).trans own_sh)) ((own_sn (by decide)).trans own_sh) own_sh ((own_sn (by decide)).trans ((own_sn (by decide)).trans own_sh)) ((own_sn (by decide)).trans own_sh) own_sh hb0 hb1 hb2 ho0 ho1 hm
set_option maxRecDepth 65536 in
set_option maxHeartbeats 40000000 in
theorem own_n3 {p : Program} {l : Launch} {e : Env} {s : State} {m : MethodId} {args : Array Value} {below : List Frame} {meth : Method} {c : Code} {T0 : State} {locs : List Loc} {Z : State} {a0 : Array Value} {h0 : Heap} {n0 : Nat} (cnt sb pb : Int32) (sv pl : Int32 → Int32) (ob sa da pa ss dd cc : Addr) (fd fs fp fss : Nat → Value) (X0 : Stand p l e room_1 s m args below meth c T0 locs (0 + 1 + 1 + 1 + 1 + 1 + 2) (0 + 4 + 4 + 4 + 4 + 5 + 32)) (hx : p.tables.exec = Jvm.exec) (hby : c.code = code) (hml : c.maxLocals = 11) (hret : meth.sig.returnType = some .boolean) (hlk : meth.locks = false) (hown : s.vm.findClass "com/example/etsinta/etsinta/search/BestRankPinLaw" = some m.cls) (hnm : meth.name = "law") (hZ : Z.Warmed39 s.vm) (hw : ∀ d ∈ tables_1, d.before a0 Z = true) (e0 : T0.heap = h0) (N0 : Fr n0 locs) (Z0 : n0 ≤ h0.size) (Sb : own_S Z h0 ob sa da pa (0 : Int32) fd fs fp) (Nn : own_N n0 ob sa da pa) (Mm : own_M ob sa da pa ss dd cc) (hP : own_P pl fp) (hss : ∀ d, own_ok d → fss d.toNatClampNeg = .double (FP.i2d (sv d))) (As : OwnA Z h0 ss .double 4 fss) (Ad : OwnA Z h0 dd .int 4 (fun _ => (defaultValue .int))) (Ac : OwnA Z h0 cc .double 4 (fun _ => (defaultValue .double))) (gd : n0 ≤ dd) (gc : n0 ≤ cc) :
    OwnG p e below s (fun v h L => v = some (.int 1) ∧ Fr n0 L) room_1.cells room_1.slots (T0.setTop (mkF m 119 #[.val (.int cnt), .val (.int sb), .val (.int pb), .val (.int 3), .val (.ref ss), .val (.ref pa), .val (.ref dd), .val (.ref cc), .val (.ref ob), .unset, .unset] [])) := by
  show OwnG p e below s _ _ _ (T0.setTop (mkF m 119 #[.val (.int cnt), .val (.int sb), .val (.int pb), .val (.int 3), .val (.ref ss), .val (.ref pa), .val (.ref dd), .val (.ref cc), .val (.ref ob), .unset, .unset] []))
  refine own_by (fun _ K => XS.iloadN X0.here hx rfl (hb hby at_119) rfl K) ?_
  show OwnG p e below s _ _ _ (T0.setTop (mkF m 120 _ [(.int 3)]))
  refine own_by (fun _ K => XS.ifNo X0.here hx rfl (hb hby at_120) rfl ((if0 _ _).trans (tlt (by decide)).2.2.2) K) ?_
  show OwnG p e below s _ _ _ (T0.setTop (mkF m 123 _ []))
  refine own_by (fun _ K => XS.aload X0.here hx rfl (hb hby at_123) rfl rfl K) ?_
  show OwnG p e below s _ _ _ (T0.setTop (mkF m 125 _ [(.ref ob)]))
  refine own_by (fun _ K => XS.iconst X0.here hx rfl (hb hby at_125) K) ?_
  show OwnG p e below s _ _ _ (T0.setTop (mkF m 126 _ [(.int 0), (.ref ob)]))
  refine own_by (fun _ K => XS.aload X0.here hx rfl (hb hby at_126) rfl rfl K) ?_
  show OwnG p e below s _ _ _ (T0.setTop (mkF m 128 _ [(.ref ss), (.int 0), (.ref ob)]))
  refine own_by (fun _ K => XS.iconst X0.here hx rfl (hb hby at_128) K) ?_
  show OwnG p e below s _ _ _ (T0.setTop (mkF m 129 _ [(.int 0), (.ref ss), (.int 0), (.ref ob)]))
  refine own_by (fun _ K => own_ldD X0 hx hZ e0 As (j := (0 : Int32)) (i := 0) ⟨by decide, rfl, by decide⟩ (v := (.double (FP.i2d (sv (0 : Int32))))) (hss (0 : Int32) (Or.inl rfl)) (g := (mkF m 129 #[.val (.int cnt), .val (.int sb), .val (.int pb), .val (.int 3), .val (.ref ss), .val (.ref pa), .val (.ref dd), .val (.ref cc), .val (.ref ob), .unset, .unset] [(.int 0), (.ref ss), (.int 0), (.ref ob)])) rfl rfl (hb hby at_129) _ K) ?_
  show OwnG p e below s _ _ _ (T0.setTop (mkF m 130 _ [(.double (FP.i2d (sv (0 : Int32)))), (.int 0), (.ref ob)]))
  obtain ⟨cq1, kq1, q1a, q1b, q1c⟩ := isOf hZ e0 Sb.1
  obtain ⟨_, _, ⟨T1, L1, k1, n1⟩, -, X1, ⟨Lc1, hQ1, l1, y1, z1⟩, st1⟩ := X0.virtualBack hx (y := (⟨"com/example/etsinta/etsinta/search/Best", "offer", "(ID)V"⟩ : MethodName)) (z := (⟨"com/example/etsinta/etsinta/search/Best", "offer", "(ID)V"⟩ : MethodName)) hown (mvT hZ (own_w hw 42 rfl)) (mvT hZ (own_w hw 43 rfl)) (notFace_of_selects (args := #[]) (mvT hZ (own_w hw 45 rfl))) (mvT hZ (own_w hw 45 rfl)) (mvT hZ (own_w hw 44 rfl)) (by decide) (backOf (W := 0) (rm8o0 l Z a0 hw [] sv pl ob sa da pa fd fs fp (0 : Int32) h0 n0 Z0 ⟨Sb.1, Sb.2.1, Sb.2.2.1, Sb.2.2.2.1, Sb.2.2.2.2.1, Sb.2.2.2.2.2.1, Sb.2.2.2.2.2.2.1, Sb.2.2.2.2.2.2.2.1, Sb.2.2.2.2.2.2.2.2⟩ Nn hP  (Or.inl rfl)) hZ (own_w hw 46 rfl) (own_w hw 5 rfl) (by decide) (by decide)) q1a q1c (g := (mkF m 130 #[.val (.int cnt), .val (.int sb), .val (.int pb), .val (.int 3), .val (.ref ss), .val (.ref pa), .val (.ref dd), .val (.ref cc), .val (.ref ob), .unset, .unset] [(.double (FP.i2d (sv (0 : Int32)))), (.int 0), (.ref ob)])) rfl (by rw [hml]; rfl) (Steps.refl _) (argsL := [(.int 0), (.double (FP.i2d (sv (0 : Int32))))]) (rest := []) (lenOf pd_2 rfl) rfl (by show 2 * 0 + _ ≤ _; exact Nat.le_of_eq rfl) (hb hby at_130) (fun _ _ => ⟨rfl, e0, (by decide : 0 + 1 + 1 + 1 + 1 + 1 + 2 + 0 ≤ _), (by decide : 0 + 4 + 4 + 4 + 4 + 5 + 32 + 0 ≤ _)⟩)
  dsimp only [Pt.U, Pt.locs, Pt.cells, Pt.slots] at X1 l1 y1 z1 st1 hQ1
  subst l1 y1 z1
  refine own_by (fun _ K => st1.trans K) ?_
  obtain ⟨rfl, N1q, K1, fd1, fs1, r1_0, S1, t1_0, hU1⟩ := hQ1
  have N1 := Fr.app N0 N1q
  have sz1 : n0 ≤ T1.heap.size := Nat.le_trans Z0 K1.1
  have f2 := Exa.keep Sb.1 K1
  have f3 := OwnA.keep As K1 (ninS Mm.1 (ninS Mm.2.1 (ninS Mm.2.2.1 nin0)))
  have f4 := OwnA.keep Ad K1 (ninS Mm.2.2.2.1 (ninS Mm.2.2.2.2.1 (ninS Mm.2.2.2.2.2.1 nin0)))
  have f5 := OwnA.keep Ac K1 (ninS Mm.2.2.2.2.2.2.1 (ninS Mm.2.2.2.2.2.2.2.1 (ninS Mm.2.2.2.2.2.2.2.2.1 nin0)))
  show OwnG p e below s _ _ _ (T1.setTop (mkF m 133 _ []))
  refine own_by (fun _ K => XS.iloadN X1.here hx rfl (hb hby at_133) rfl K) ?_
  show OwnG p e below s _ _ _ (T1.setTop (mkF m 134 _ [(.int 3)]))
  refine own_by (fun _ K => XS.iconst X1.here hx rfl (hb hby at_134) K) ?_
  show OwnG p e below s _ _ _ (T1.setTop (mkF m 135 _ [(.int 1), (.int 3)]))
  refine own_by (fun _ K => XS.icmpNo X1.here hx rfl (hb hby at_135) rfl (tlt (by decide)).2.2.2 K) ?_
  show OwnG p e below s _ _ _ (T1.setTop (mkF m 138 _ []))
  refine own_by (fun _ K => XS.aload X1.here hx rfl (hb hby at_138) rfl rfl K) ?_
  show OwnG p e below s _ _ _ (T1.setTop (mkF m 140 _ [(.ref ob)]))
  refine own_by (fun _ K => XS.iconst X1.here hx rfl (hb hby at_140) K) ?_
  show OwnG p e below s _ _ _ (T1.setTop (mkF m 141 _ [(.int 1), (.ref ob)]))
  refine own_by (fun _ K => XS.aload X1.here hx rfl (hb hby at_141) rfl rfl K) ?_
  show OwnG p e below s _ _ _ (T1.setTop (mkF m 143 _ [(.ref ss), (.int 1), (.ref ob)]))
  refine own_by (fun _ K => XS.iconst X1.here hx rfl (hb hby at_143) K) ?_
  show OwnG p e below s _ _ _ (T1.setTop (mkF m 144 _ [(.int 1), (.ref ss), (.int 1), (.ref ob)]))
  refine own_by (fun _ K => own_ldD X1 hx hZ (rfl : T1.heap = T1.heap) f3 (j := (1 : Int32)) (i := 1) ⟨by decide, rfl, by decide⟩ (v := (.double (FP.i2d (sv (1 : Int32))))) (hss (1 : Int32) (Or.inr (Or.inl rfl))) (g := (mkF m 144 #[.val (.int cnt), .val (.int sb), .val (.int pb), .val (.int 3), .val (.ref ss), .val (.ref pa), .val (.ref dd), .val (.ref cc), .val (.ref ob), .unset, .unset] [(.int 1), (.ref ss), (.int 1), (.ref ob)])) rfl rfl (hb hby at_144) _ K) ?_
  show OwnG p e below s _ _ _ (T1.setTop (mkF m 145 _ [(.double (FP.i2d (sv (1 : Int32)))), (.int 1), (.ref ob)]))
  obtain ⟨cq6, kq6, q6a, q6b, q6c⟩ := isOf hZ (rfl : T1.heap = T1.heap) S1.1
  obtain ⟨_, _, ⟨T6, L6, k6, n6⟩, -, X6, ⟨Lc6, hQ6, l6, y6, z6⟩, st6⟩ := X1.virtualBack hx (y := (⟨"com/example/etsinta/etsinta/search/Best", "offer", "(ID)V"⟩ : MethodName)) (z := (⟨"com/example/etsinta/etsinta/search/Best", "offer", "(ID)V"⟩ : MethodName)) hown (mvT hZ (own_w hw 42 rfl)) (mvT hZ (own_w hw 43 rfl)) (notFace_of_selects (args := #[]) (mvT hZ (own_w hw 45 rfl))) (mvT hZ (own_w hw 45 rfl)) (mvT hZ (own_w hw 44 rfl)) (by decide) (backOf (W := 0) (rm8o1 l Z a0 hw [] sv pl ob sa da pa fd1 fs1 fp r1_0 (1 : Int32) T1.heap n0 sz1 ⟨S1.1, S1.2.1, S1.2.2.1, S1.2.2.2.1, S1.2.2.2.2.1, S1.2.2.2.2.2.1, S1.2.2.2.2.2.2.1, S1.2.2.2.2.2.2.2.1, S1.2.2.2.2.2.2.2.2⟩ Nn hP ⟨t1_0.1, t1_0.2.1, t1_0.2.2⟩ (Or.inr (Or.inl rfl))) hZ (own_w hw 46 rfl) (own_w hw 5 rfl) (by decide) (by decide)) q6a q6c (g := (mkF m 145 #[.val (.int cnt), .val (.int sb), .val (.int pb), .val (.int 3), .val (.ref ss), .val (.ref pa), .val (.ref dd), .val (.ref cc), .val (.ref ob), .unset, .unset] [(.double (FP.i2d (sv (1 : Int32)))), (.int 1), (.ref ob)])) rfl (by rw [hml]; rfl) (Steps.refl _) (argsL := [(.int 1), (.double (FP.i2d (sv (1 : Int32))))]) (rest := []) (lenOf pd_2 rfl) rfl (by show 2 * 0 + _ ≤ _; exact Nat.le_of_eq rfl) (hb hby at_145) (fun _ _ => ⟨rfl, (rfl : T1.heap = T1.heap), (by decide : 0 + 1 + 1 + 1 + 1 + 1 + 2 + 0 ≤ _), (by decide : 0 + 4 + 4 + 4 + 4 + 5 + 32 + 0 ≤ _)⟩)
  dsimp only [Pt.U, Pt.locs, Pt.cells, Pt.slots] at X6 l6 y6 z6 st6 hQ6
  subst l6 y6 z6
  refine own_by (fun _ K => st6.trans K) ?_
  obtain ⟨rfl, N6q, K6, fd6, fs6, r6_0, r6_1, S6, t6_0, t6_1, hU6⟩ := hQ6
  have N6 := Fr.app N1 N6q
  have sz6 : n0 ≤ T6.heap.size := Nat.le_trans sz1 K6.1
  have f7 := Exa.keep S1.1 K6
  have f8 := OwnA.keep f3 K6 (ninS Mm.1 (ninS Mm.2.1 (ninS Mm.2.2.1 nin0)))
  have f9 := OwnA.keep f4 K6 (ninS Mm.2.2.2.1 (ninS Mm.2.2.2.2.1 (ninS Mm.2.2.2.2.2.1 nin0)))
  have f10 := OwnA.keep f5 K6 (ninS Mm.2.2.2.2.2.2.1 (ninS Mm.2.2.2.2.2.2.2.1 (ninS Mm.2.2.2.2.2.2.2.2.1 nin0)))
  show OwnG p e below s _ _ _ (T6.setTop (mkF m 148 _ []))
  refine own_by (fun _ K => XS.iloadN X6.here hx rfl (hb hby at_148) rfl K) ?_
  show OwnG p e below s _ _ _ (T6.setTop (mkF m 149 _ [(.int 3)]))
  refine own_by (fun _ K => XS.iconst X6.here hx rfl (hb hby at_149) K) ?_
  show OwnG p e below s _ _ _ (T6.setTop (mkF m 150 _ [(.int 2), (.int 3)]))
  refine own_by (fun _ K => XS.icmpNo X6.here hx rfl (hb hby at_150) rfl (tlt (by decide)).2.2.2 K) ?_
  show OwnG p e below s _ _ _ (T6.setTop (mkF m 153 _ []))
  refine own_by (fun _ K => XS.aload X6.here hx rfl (hb hby at_153) rfl rfl K) ?_
  show OwnG p e below s _ _ _ (T6.setTop (mkF m 155 _ [(.ref ob)]))
  refine own_by (fun _ K => XS.iconst X6.here hx rfl (hb hby at_155) K) ?_
  show OwnG p e below s _ _ _ (T6.setTop (mkF m 156 _ [(.int 2), (.ref ob)]))
  refine own_by (fun _ K => XS.aload X6.here hx rfl (hb hby at_156) rfl rfl K) ?_
  show OwnG p e below s _ _ _ (T6.setTop (mkF m 158 _ [(.ref ss), (.int 2), (.ref ob)]))
  refine own_by (fun _ K => XS.iconst X6.here hx rfl (hb hby at_158) K) ?_
  show OwnG p e below s _ _ _ (T6.setTop (mkF m 159 _ [(.int 2), (.ref ss), (.int 2), (.ref ob)]))
  refine own_by (fun _ K => own_ldD X6 hx hZ (rfl : T6.heap = T6.heap) f8 (j := (2 : Int32)) (i := 2) ⟨by decide, rfl, by decide⟩ (v := (.double (FP.i2d (sv (2 : Int32))))) (hss (2 : Int32) (Or.inr (Or.inr (Or.inl rfl)))) (g := (mkF m 159 #[.val (.int cnt), .val (.int sb), .val (.int pb), .val (.int 3), .val (.ref ss), .val (.ref pa), .val (.ref dd), .val (.ref cc), .val (.ref ob), .unset, .unset] [(.int 2), (.ref ss), (.int 2), (.ref ob)])) rfl rfl (hb hby at_159) _ K) ?_
  show OwnG p e below s _ _ _ (T6.setTop (mkF m 160 _ [(.double (FP.i2d (sv (2 : Int32)))), (.int 2), (.ref ob)]))
  obtain ⟨cq11, kq11, q11a, q11b, q11c⟩ := isOf hZ (rfl : T6.heap = T6.heap) S6.1
  obtain ⟨_, _, ⟨T11, L11, k11, n11⟩, -, X11, ⟨Lc11, hQ11, l11, y11, z11⟩, st11⟩ := X6.virtualBack hx (y := (⟨"com/example/etsinta/etsinta/search/Best", "offer", "(ID)V"⟩ : MethodName)) (z := (⟨"com/example/etsinta/etsinta/search/Best", "offer", "(ID)V"⟩ : MethodName)) hown (mvT hZ (own_w hw 42 rfl)) (mvT hZ (own_w hw 43 rfl)) (notFace_of_selects (args := #[]) (mvT hZ (own_w hw 45 rfl))) (mvT hZ (own_w hw 45 rfl)) (mvT hZ (own_w hw 44 rfl)) (by decide) (backOf (W := 0) (rm8o2 l Z a0 hw [] sv pl ob sa da pa fd6 fs6 fp r6_0 r6_1 (2 : Int32) T6.heap n0 sz6 ⟨S6.1, S6.2.1, S6.2.2.1, S6.2.2.2.1, S6.2.2.2.2.1, S6.2.2.2.2.2.1, S6.2.2.2.2.2.2.1, S6.2.2.2.2.2.2.2.1, S6.2.2.2.2.2.2.2.2⟩ Nn hP ⟨t6_0.1, t6_0.2.1, t6_0.2.2⟩ ⟨t6_1.1, t6_1.2.1, t6_1.2.2⟩ (Or.inr (Or.inr (Or.inl rfl)))) hZ (own_w hw 46 rfl) (own_w hw 5 rfl) (by decide) (by decide)) q11a q11c (g := (mkF m 160 #[.val (.int cnt), .val (.int sb), .val (.int pb), .val (.int 3), .val (.ref ss), .val (.ref pa), .val (.ref dd), .val (.ref cc), .val (.ref ob), .unset, .unset] [(.double (FP.i2d (sv (2 : Int32)))), (.int 2), (.ref ob)])) rfl (by rw [hml]; rfl) (Steps.refl _) (argsL := [(.int 2), (.double (FP.i2d (sv (2 : Int32))))]) (rest := []) (lenOf pd_2 rfl) rfl (by show 2 * 0 + _ ≤ _; exact Nat.le_of_eq rfl) (hb hby at_160) (fun _ _ => ⟨rfl, (rfl : T6.heap = T6.heap), (by decide : 0 + 1 + 1 + 1 + 1 + 1 + 2 + 0 ≤ _), (by decide : 0 + 4 + 4 + 4 + 4 + 5 + 32 + 0 ≤ _)⟩)
  dsimp only [Pt.U, Pt.locs, Pt.cells, Pt.slots] at X11 l11 y11 z11 st11 hQ11
  subst l11 y11 z11
  refine own_by (fun _ K => st11.trans K) ?_
  obtain ⟨rfl, N11q, K11, fd11, fs11, r11_0, r11_1, r11_2, S11, t11_0, t11_1, t11_2, hU11⟩ := hQ11
  have N11 := Fr.app N6 N11q
  have sz11 : n0 ≤ T11.heap.size := Nat.le_trans sz6 K11.1
  have f12 := Exa.keep S6.1 K11
  have f13 := OwnA.keep f8 K11 (ninS Mm.1 (ninS Mm.2.1 (ninS Mm.2.2.1 nin0)))
  have f14 := OwnA.keep f9 K11 (ninS Mm.2.2.2.1 (ninS Mm.2.2.2.2.1 (ninS Mm.2.2.2.2.2.1 nin0)))
  have f15 := OwnA.keep f10 K11 (ninS Mm.2.2.2.2.2.2.1 (ninS Mm.2.2.2.2.2.2.2.1 (ninS Mm.2.2.2.2.2.2.2.2.1 nin0)))
  show OwnG p e below s _ _ _ (T11.setTop (mkF m 163 _ []))
  refine own_by (fun _ K => XS.iloadN X11.here hx rfl (hb hby at_163) rfl K) ?_
  show OwnG p e below s _ _ _ (T11.setTop (mkF m 164 _ [(.int 3)]))
  refine own_by (fun _ K => XS.iconst X11.here hx rfl (hb hby at_164) K) ?_
  show OwnG p e below s _ _ _ (T11.setTop (mkF m 165 _ [(.int 3), (.int 3)]))
  refine own_by (fun _ K => XS.icmpYes X11.here hx rfl (pc0 := 165) (pc' := 178) rfl (hb hby at_165) rfl (flt (by decide)).2.2.2 (by decide) (by decide) K) ?_
  show OwnG p e below s _ _ _ (T11.setTop (mkF m 178 _ []))
  refine own_by (fun _ K => XS.aload X11.here hx rfl (hb hby at_178) rfl rfl K) ?_
  show OwnG p e below s _ _ _ (T11.setTop (mkF m 180 _ [(.ref ob)]))
  obtain ⟨cq16, kq16, q16a, q16b, q16c⟩ := isOf hZ (rfl : T11.heap = T11.heap) S11.1
  obtain ⟨_, _, ⟨T16, L16, k16, n16⟩, -, X16, ⟨Lc16, hQ16, l16, y16, z16⟩, st16⟩ := X11.virtualBack hx (y := (⟨"com/example/etsinta/etsinta/search/Best", "rank", "()V"⟩ : MethodName)) (z := (⟨"com/example/etsinta/etsinta/search/Best", "rank", "()V"⟩ : MethodName)) hown (mvT hZ (own_w hw 20 rfl)) (mvT hZ (own_w hw 21 rfl)) (notFace_of_selects (args := #[]) (mvT hZ (own_w hw 23 rfl))) (mvT hZ (own_w hw 23 rfl)) (mvT hZ (own_w hw 22 rfl)) (by decide) (backOf (W := 0) (rm3k3 l Z a0 hw [] sv pl ob sa da pa fd11 fs11 fp r11_0 r11_1 r11_2 T11.heap n0 sz11 ⟨S11.1, S11.2.1, S11.2.2.1, S11.2.2.2.1, S11.2.2.2.2.1, S11.2.2.2.2.2.1, S11.2.2.2.2.2.2.1, S11.2.2.2.2.2.2.2.1, S11.2.2.2.2.2.2.2.2⟩ Nn hP ⟨t11_0.1, t11_0.2.1, t11_0.2.2⟩ ⟨t11_1.1, t11_1.2.1, t11_1.2.2⟩ ⟨t11_2.1, t11_2.2.1, t11_2.2.2⟩) hZ (own_w hw 24 rfl) (own_w hw 5 rfl) (by decide) (by decide)) q16a q16c (g := (mkF m 180 #[.val (.int cnt), .val (.int sb), .val (.int pb), .val (.int 3), .val (.ref ss), .val (.ref pa), .val (.ref dd), .val (.ref cc), .val (.ref ob), .unset, .unset] [(.ref ob)])) rfl (by rw [hml]; rfl) (Steps.refl _) (argsL := []) (rest := []) (lenOf pd_6 rfl) rfl (by show 2 * 0 + _ ≤ _; exact Nat.le_of_eq rfl) (hb hby at_180) (fun _ _ => ⟨rfl, (rfl : T11.heap = T11.heap), (by decide : 0 + 1 + 1 + 1 + 1 + 1 + 2 + 0 ≤ _), (by decide : 0 + 4 + 4 + 4 + 4 + 5 + 32 + 0 ≤ _)⟩)
  dsimp only [Pt.U, Pt.locs, Pt.cells, Pt.slots] at X16 l16 y16 z16 st16 hQ16
  subst l16 y16 z16
  refine own_by (fun _ K => st16.trans K) ?_
  obtain ⟨rfl, N16q, K16, fd16, fs16, r16_0, r16_1, r16_2, S16, t16_0, t16_1, t16_2, hR16⟩ := hQ16
  have N16 := Fr.app N11 N16q
  have sz16 : n0 ≤ T16.heap.size := Nat.le_trans sz11 K16.1
  have f17 := Exa.keep S11.1 K16
  have f18 := OwnA.keep f13 K16 (ninS Mm.1 (ninS Mm.2.1 (ninS Mm.2.2.1 nin0)))
  have f19 := OwnA.keep f14 K16 (ninS Mm.2.2.2.1 (ninS Mm.2.2.2.2.1 (ninS Mm.2.2.2.2.2.1 nin0)))
  have f20 := OwnA.keep f15 K16 (ninS Mm.2.2.2.2.2.2.1 (ninS Mm.2.2.2.2.2.2.2.1 (ninS Mm.2.2.2.2.2.2.2.2.1 nin0)))
  show OwnG p e below s _ _ _ (T16.setTop (mkF m 183 _ []))
  refine own_by (fun _ K => XS.aload X16.here hx rfl (hb hby at_183) rfl rfl K) ?_
  show OwnG p e below s _ _ _ (T16.setTop (mkF m 185 _ [(.ref ob)]))
  obtain ⟨cq21, kq21, q21a, q21b, q21c⟩ := isOf hZ (rfl : T16.heap = T16.heap) S16.1
  obtain ⟨_, _, ⟨T21, L21, k21, n21⟩, -, X21, ⟨Lc21, hQ21, l21, y21, z21⟩, st21⟩ := X16.virtualBack hx (y := (⟨"com/example/etsinta/etsinta/search/Best", "size", "()I"⟩ : MethodName)) (z := (⟨"com/example/etsinta/etsinta/search/Best", "size", "()I"⟩ : MethodName)) hown (mvT hZ (own_w hw 27 rfl)) (mvT hZ (own_w hw 28 rfl)) (notFace_of_selects (args := #[]) (mvT hZ (own_w hw 30 rfl))) (mvT hZ (own_w hw 30 rfl)) (mvT hZ (own_w hw 29 rfl)) (by decide) (backOf (W := 0) (rm4 l Z a0 hw [] ob sa da pa (3 : Int32) fd16 fs16 fp T16.heap n0 sz16 ⟨S16.1, S16.2.1, S16.2.2.1, S16.2.2.2.1, S16.2.2.2.2.1, S16.2.2.2.2.2.1, S16.2.2.2.2.2.2.1, S16.2.2.2.2.2.2.2.1, S16.2.2.2.2.2.2.2.2⟩) hZ (own_w hw 31 rfl) (own_w hw 5 rfl) (by decide) (by decide)) q21a q21c (g := (mkF m 185 #[.val (.int cnt), .val (.int sb), .val (.int pb), .val (.int 3), .val (.ref ss), .val (.ref pa), .val (.ref dd), .val (.ref cc), .val (.ref ob), .unset, .unset] [(.ref ob)])) rfl (by rw [hml]; rfl) (Steps.refl _) (argsL := []) (rest := []) (lenOf pd_8 rfl) rfl (by show 2 * 0 + _ ≤ _; exact Nat.le_of_eq rfl) (hb hby at_185) (fun _ _ => ⟨rfl, (rfl : T16.heap = T16.heap), (by decide : 0 + 1 + 1 + 1 + 1 + 1 + 2 + 0 ≤ _), (by decide : 0 + 4 + 4 + 4 + 4 + 5 + 32 + 0 ≤ _)⟩)
  dsimp only [Pt.U, Pt.locs, Pt.cells, Pt.slots] at X21 l21 y21 z21 st21 hQ21
  subst l21 y21 z21
  refine own_by (fun _ K => st21.trans K) ?_
  obtain ⟨rfl, N21q, hh21⟩ := hQ21
  have N21 := Fr.app N16 N21q
  have f22 := S16.1
  rw [← hh21] at f22
  have f23 := f18
  rw [← hh21] at f23
  have f24 := f19
  rw [← hh21] at f24
  have f25 := f20
  rw [← hh21] at f25
  have f26 := S16.2.1
  rw [← hh21] at f26
  have f27 := S16.2.2.1
  rw [← hh21] at f27
  have f28 := S16.2.2.2.1
  rw [← hh21] at f28
  have f29 := S16.2.2.2.2.1
  rw [← hh21] at f29
  have f30 := S16.2.2.2.2.2.1
  rw [← hh21] at f30
  have f31 := S16.2.2.2.2.2.2.1
  rw [← hh21] at f31
  have f32 := S16.2.2.2.2.2.2.2.1
  rw [← hh21] at f32
  have f33 := S16.2.2.2.2.2.2.2.2
  rw [← hh21] at f33
  have sz21 : n0 ≤ T21.heap.size := by rw [hh21]; exact sz16
  show OwnG p e below s _ _ _ (T21.setTop (mkF m 188 _ [(.int 3)]))
  refine own_by (fun _ K => XS.iloadN X21.here hx rfl (hb hby at_188) rfl K) ?_
  show OwnG p e below s _ _ _ (T21.setTop (mkF m 189 _ [(.int 3), (.int 3)]))
  refine own_by (fun _ K => XS.icmpYes X21.here hx rfl (pc0 := 189) (pc' := 194) rfl (hb hby at_189) rfl (teq (by decide)).1 (by decide) (by decide) K) ?_
  show OwnG p e below s _ _ _ (T21.setTop (mkF m 194 _ []))
  rw [hU1] at hU6
  obtain ⟨ho0, ho1, hp⟩ := own_fin3 hU6 hU11 hR16
  obtain ⟨hb0, hb1, hb2, hm⟩ := own_g3 hp
  exact own_r3 cnt sb pb sv pl ob sa da pa ss dd cc fd16 fs16 fp fss r16_0 r16_1 r16_2 X21 hx hby hml hret hlk hown hnm hZ hw (rfl : T21.heap = T21.heap) N21 sz21 ⟨f22, f26, f27, f28, f29, f30, f31, f32, f33⟩ Nn Mm hP hss f23 f24 f25 gd gc ⟨t16_0.1, t16_0.2.1, t16_0.2.2⟩ ⟨t16_1.1, t16_1.2.1, t16_1.2.2⟩ ⟨t16_2.1, t16_2.2.1, t16_2.2.2⟩ hb0 hb1 hb2 ho0 ho1 hm
set_option maxRecDepth 65536 in
set_option maxHeartbeats 40000000 in
theorem own_o4 {p : Program} {l : Launch} {e : Env} {s : State} {m : MethodId} {args : Array Value} {below : List Frame} {meth : Method} {c : Code} {T0 : State} {locs : List Loc} {Z : State} {a0 : Array Value} {h0 : Heap} {n0 : Nat} (cnt sb pb mk : Int32) (sv pl : Int32 → Int32) (ob pa ss dd cc : Addr) (fp fss fdd fcc : Nat → Value) (r0 r1 r2 r3 : Int32) (X0 : Stand p l e room_1 s m args below meth c T0 locs (0 + 1 + 1 + 1 + 1 + 1 + 2) (0 + 4 + 4 + 4 + 4 + 5 + 32)) (hx : p.tables.exec = Jvm.exec) (hby : c.code = code) (hml : c.maxLocals = 11) (hret : meth.sig.returnType = some .boolean) (hlk : meth.locks = false) (hown : s.vm.findClass "com/example/etsinta/etsinta/search/BestRankPinLaw" = some m.cls) (hnm : meth.name = "law") (hZ : Z.Warmed39 s.vm) (hw : ∀ d ∈ tables_1, d.before a0 Z = true) (e0 : T0.heap = h0) (N0 : Fr n0 locs) (Z0 : n0 ≤ h0.size) (Ap : OwnA Z h0 pa .int 4 fp) (As : OwnA Z h0 ss .double 4 fss) (Ad : OwnA Z h0 dd .int 4 fdd) (Ac : OwnA Z h0 cc .double 4 fcc) (hP : own_P pl fp) (hss : ∀ d, own_ok d → fss d.toNatClampNeg = .double (FP.i2d (sv d))) (k_r0 : own_ok r0) (k_r1 : own_ok r1) (k_r2 : own_ok r2) (k_r3 : own_ok r3) (v1_0 : fdd 0 = .int r0) (v1_1 : fdd 1 = .int r1) (v1_2 : fdd 2 = .int r2) (v1_3 : fdd 3 = .int r3) (v2_0 : fcc 0 = .double (FP.i2d (sv r0))) (v2_1 : fcc 1 = .double (FP.i2d (sv r1))) (v2_2 : fcc 2 = .double (FP.i2d (sv r2))) (v2_3 : fcc 3 = .double (FP.i2d (sv r3))) (hb0 : ¬ r0 < 0 ∧ r0 < (4 : Int32)) (hb1 : ¬ r1 < 0 ∧ r1 < (4 : Int32)) (hb2 : ¬ r2 < 0 ∧ r2 < (4 : Int32)) (hb3 : ¬ r3 < 0 ∧ r3 < (4 : Int32)) (ho0 : ¬ own_K sv pl r0 < own_K sv pl r1) (ho1 : ¬ own_K sv pl r1 < own_K sv pl r2) (ho2 : ¬ own_K sv pl r2 < own_K sv pl r3) (hm : ((((1 : Int32) <<< (r0 &&& 31)) ||| ((1 : Int32) <<< (r1 &&& 31))) ||| ((1 : Int32) <<< (r2 &&& 31))) ||| ((1 : Int32) <<< (r3 &&& 31)) = ((1 : Int32) <<< ((4 : Int32) &&& 31)) - (1 : Int32)) :
    OwnG p e below s (fun v h L => v = some (.int 1) ∧ Fr n0 L) room_1.cells room_1.slots (T0.setTop (mkF m 408 #[.val (.int cnt), .val (.int sb), .val (.int pb), .val (.int 4), .val (.ref ss), .val (.ref pa), .val (.ref dd), .val (.ref cc), .val (.ref ob), .val (.int 1), .val (.int mk)] [])) := by
  show OwnG p e below s _ _ _ (T0.setTop (mkF m 408 #[.val (.int cnt), .val (.int sb), .val (.int pb), .val (.int 4), .val (.ref ss), .val (.ref pa), .val (.ref dd), .val (.ref cc), .val (.ref ob), .val (.int 1), .val (.int mk)] []))
  refine own_by (fun _ K => XS.aload X0.here hx rfl (hb hby at_408) rfl rfl K) ?_
  show OwnG p e below s _ _ _ (T0.setTop (mkF m 410 _ [(.ref pa)]))
  refine own_by (fun _ K => XS.aload X0.here hx rfl (hb hby at_410) rfl rfl K) ?_
  show OwnG p e below s _ _ _ (T0.setTop (mkF m 412 _ [(.ref dd), (.ref pa)]))
  refine own_by (fun _ K => XS.aload X0.here hx rfl (hb hby at_412) rfl rfl K) ?_
  show OwnG p e below s _ _ _ (T0.setTop (mkF m 414 _ [(.ref cc), (.ref dd), (.ref pa)]))
  refine own_by (fun _ K => XS.iloadN X0.here hx rfl (hb hby at_414) rfl K) ?_
  show OwnG p e below s _ _ _ (T0.setTop (mkF m 415 _ [(.int 4), (.ref cc), (.ref dd), (.ref pa)]))
  refine own_by (fun _ K => XS.iconst X0.here hx rfl (hb hby at_415) K) ?_
  show OwnG p e below s _ _ _ (T0.setTop (mkF m 416 _ [(.int 0), (.int 4), (.ref cc), (.ref dd), (.ref pa)]))
  obtain ⟨_, _, ⟨T1, L1, k1, n1⟩, -, X1, ⟨Lc1, hQ1, l1, y1, z1⟩, st1⟩ := Jvm.LawKit.callS X0 hx (y := (⟨"com/example/etsinta/etsinta/search/BestRankPinLaw", "ordered", "([I[I[DII)Z"⟩ : MethodName)) hown (mvT hZ (own_w hw 39 rfl)) (mvT hZ (own_w hw 40 rfl)) (mvT hZ (own_w hw 34 rfl)) (mvT hZ (own_w hw 41 rfl)) (by decide) (backOf (W := 0) (rm7p l Z a0 hw [] sv pl pa dd cc (4 : Int32) (0 : Int32) r0 r1 0 fdd fcc fp h0 n0 Z0 Ap Ad Ac hP (by decide) ⟨by decide, rfl, by decide⟩ ⟨by decide, by decide, by decide⟩ k_r0 k_r1 v1_0 v2_0 v1_1 v2_1 ho0) hZ (own_w hw 41 rfl) (own_w hw 34 rfl) (by decide) (by decide)) (g := (mkF m 416 #[.val (.int cnt), .val (.int sb), .val (.int pb), .val (.int 4), .val (.ref ss), .val (.ref pa), .val (.ref dd), .val (.ref cc), .val (.ref ob), .val (.int 1), .val (.int mk)] [(.int 0), (.int 4), (.ref cc), (.ref dd), (.ref pa)])) rfl (by rw [hml]; rfl) (argsL := [(.ref pa), (.ref dd), (.ref cc), (.int 4), (.int 0)]) (rest := []) (lenOf pd_13 rfl) rfl (by show 2 * 0 + _ ≤ _; exact Nat.le_of_eq rfl) (hb hby at_416) (fun _ _ => ⟨rfl, e0, (by decide : 0 + 1 + 1 + 1 + 1 + 1 + 2 + 0 ≤ _), (by decide : 0 + 4 + 4 + 4 + 4 + 5 + 32 + 0 ≤ _)⟩)
  dsimp only [Pt.U, Pt.locs, Pt.cells, Pt.slots] at X1 l1 y1 z1 st1 hQ1
  subst l1 y1 z1
  refine own_by (fun _ K => st1 _ K) ?_
  obtain ⟨rfl, N1q, hh1⟩ := hQ1
  have N1 := Fr.app N0 N1q
  have f2 := Ap
  rw [← hh1] at f2
  have f3 := As
  rw [← hh1] at f3
  have f4 := Ad
  rw [← hh1] at f4
  have f5 := Ac
  rw [← hh1] at f5
  have sz1 : n0 ≤ T1.heap.size := by rw [hh1]; exact Z0
  show OwnG p e below s _ _ _ (T1.setTop (mkF m 419 _ [(.int 1)]))
  refine own_by (fun _ K => XS.ifNo X1.here hx rfl (hb hby at_419) rfl ((if0 _ _).trans (feq (by decide)).1) K) ?_
  show OwnG p e below s _ _ _ (T1.setTop (mkF m 422 _ []))
  refine own_by (fun _ K => XS.aload X1.here hx rfl (hb hby at_422) rfl rfl K) ?_
  show OwnG p e below s _ _ _ (T1.setTop (mkF m 424 _ [(.ref pa)]))
  refine own_by (fun _ K => XS.aload X1.here hx rfl (hb hby at_424) rfl rfl K) ?_
  show OwnG p e below s _ _ _ (T1.setTop (mkF m 426 _ [(.ref dd), (.ref pa)]))
  refine own_by (fun _ K => XS.aload X1.here hx rfl (hb hby at_426) rfl rfl K) ?_
  show OwnG p e below s _ _ _ (T1.setTop (mkF m 428 _ [(.ref cc), (.ref dd), (.ref pa)]))
  refine own_by (fun _ K => XS.iloadN X1.here hx rfl (hb hby at_428) rfl K) ?_
  show OwnG p e below s _ _ _ (T1.setTop (mkF m 429 _ [(.int 4), (.ref cc), (.ref dd), (.ref pa)]))
  refine own_by (fun _ K => XS.iconst X1.here hx rfl (hb hby at_429) K) ?_
  show OwnG p e below s _ _ _ (T1.setTop (mkF m 430 _ [(.int 1), (.int 4), (.ref cc), (.ref dd), (.ref pa)]))
  obtain ⟨_, _, ⟨T6, L6, k6, n6⟩, -, X6, ⟨Lc6, hQ6, l6, y6, z6⟩, st6⟩ := Jvm.LawKit.callS X1 hx (y := (⟨"com/example/etsinta/etsinta/search/BestRankPinLaw", "ordered", "([I[I[DII)Z"⟩ : MethodName)) hown (mvT hZ (own_w hw 39 rfl)) (mvT hZ (own_w hw 40 rfl)) (mvT hZ (own_w hw 34 rfl)) (mvT hZ (own_w hw 41 rfl)) (by decide) (backOf (W := 0) (rm7p l Z a0 hw [] sv pl pa dd cc (4 : Int32) (1 : Int32) r1 r2 1 fdd fcc fp T1.heap n0 sz1 f2 f4 f5 hP (by decide) ⟨by decide, rfl, by decide⟩ ⟨by decide, by decide, by decide⟩ k_r1 k_r2 v1_1 v2_1 v1_2 v2_2 ho1) hZ (own_w hw 41 rfl) (own_w hw 34 rfl) (by decide) (by decide)) (g := (mkF m 430 #[.val (.int cnt), .val (.int sb), .val (.int pb), .val (.int 4), .val (.ref ss), .val (.ref pa), .val (.ref dd), .val (.ref cc), .val (.ref ob), .val (.int 1), .val (.int mk)] [(.int 1), (.int 4), (.ref cc), (.ref dd), (.ref pa)])) rfl (by rw [hml]; rfl) (argsL := [(.ref pa), (.ref dd), (.ref cc), (.int 4), (.int 1)]) (rest := []) (lenOf pd_13 rfl) rfl (by show 2 * 0 + _ ≤ _; exact Nat.le_of_eq rfl) (hb hby at_430) (fun _ _ => ⟨rfl, (rfl : T1.heap = T1.heap), (by decide : 0 + 1 + 1 + 1 + 1 + 1 + 2 + 0 ≤ _), (by decide : 0 + 4 + 4 + 4 + 4 + 5 + 32 + 0 ≤ _)⟩)
  dsimp only [Pt.U, Pt.locs, Pt.cells, Pt.slots] at X6 l6 y6 z6 st6 hQ6
  subst l6 y6 z6
  refine own_by (fun _ K => st6 _ K) ?_
  obtain ⟨rfl, N6q, hh6⟩ := hQ6
  have N6 := Fr.app N1 N6q
  have f7 := f2
  rw [← hh6] at f7
  have f8 := f3
  rw [← hh6] at f8
  have f9 := f4
  rw [← hh6] at f9
  have f10 := f5
  rw [← hh6] at f10
  have sz6 : n0 ≤ T6.heap.size := by rw [hh6]; exact sz1
  show OwnG p e below s _ _ _ (T6.setTop (mkF m 433 _ [(.int 1)]))
  refine own_by (fun _ K => XS.ifNo X6.here hx rfl (hb hby at_433) rfl ((if0 _ _).trans (feq (by decide)).1) K) ?_
  show OwnG p e below s _ _ _ (T6.setTop (mkF m 436 _ []))
  refine own_by (fun _ K => XS.aload X6.here hx rfl (hb hby at_436) rfl rfl K) ?_
  show OwnG p e below s _ _ _ (T6.setTop (mkF m 438 _ [(.ref pa)]))
  refine own_by (fun _ K => XS.aload X6.here hx rfl (hb hby at_438) rfl rfl K) ?_
  show OwnG p e below s _ _ _ (T6.setTop (mkF m 440 _ [(.ref dd), (.ref pa)]))
  refine own_by (fun _ K => XS.aload X6.here hx rfl (hb hby at_440) rfl rfl K) ?_
  show OwnG p e below s _ _ _ (T6.setTop (mkF m 442 _ [(.ref cc), (.ref dd), (.ref pa)]))
  refine own_by (fun _ K => XS.iloadN X6.here hx rfl (hb hby at_442) rfl K) ?_
  show OwnG p e below s _ _ _ (T6.setTop (mkF m 443 _ [(.int 4), (.ref cc), (.ref dd), (.ref pa)]))
  refine own_by (fun _ K => XS.iconst X6.here hx rfl (hb hby at_443) K) ?_
  show OwnG p e below s _ _ _ (T6.setTop (mkF m 444 _ [(.int 2), (.int 4), (.ref cc), (.ref dd), (.ref pa)]))
  obtain ⟨_, _, ⟨T11, L11, k11, n11⟩, -, X11, ⟨Lc11, hQ11, l11, y11, z11⟩, st11⟩ := Jvm.LawKit.callS X6 hx (y := (⟨"com/example/etsinta/etsinta/search/BestRankPinLaw", "ordered", "([I[I[DII)Z"⟩ : MethodName)) hown (mvT hZ (own_w hw 39 rfl)) (mvT hZ (own_w hw 40 rfl)) (mvT hZ (own_w hw 34 rfl)) (mvT hZ (own_w hw 41 rfl)) (by decide) (backOf (W := 0) (rm7p l Z a0 hw [] sv pl pa dd cc (4 : Int32) (2 : Int32) r2 r3 2 fdd fcc fp T6.heap n0 sz6 f7 f9 f10 hP (by decide) ⟨by decide, rfl, by decide⟩ ⟨by decide, by decide, by decide⟩ k_r2 k_r3 v1_2 v2_2 v1_3 v2_3 ho2) hZ (own_w hw 41 rfl) (own_w hw 34 rfl) (by decide) (by decide)) (g := (mkF m 444 #[.val (.int cnt), .val (.int sb), .val (.int pb), .val (.int 4), .val (.ref ss), .val (.ref pa), .val (.ref dd), .val (.ref cc), .val (.ref ob), .val (.int 1), .val (.int mk)] [(.int 2), (.int 4), (.ref cc), (.ref dd), (.ref pa)])) rfl (by rw [hml]; rfl) (argsL := [(.ref pa), (.ref dd), (.ref cc), (.int 4), (.int 2)]) (rest := []) (lenOf pd_13 rfl) rfl (by show 2 * 0 + _ ≤ _; exact Nat.le_of_eq rfl) (hb hby at_444) (fun _ _ => ⟨rfl, (rfl : T6.heap = T6.heap), (by decide : 0 + 1 + 1 + 1 + 1 + 1 + 2 + 0 ≤ _), (by decide : 0 + 4 + 4 + 4 + 4 + 5 + 32 + 0 ≤ _)⟩)
  dsimp only [Pt.U, Pt.locs, Pt.cells, Pt.slots] at X11 l11 y11 z11 st11 hQ11
  subst l11 y11 z11
  refine own_by (fun _ K => st11 _ K) ?_
  obtain ⟨rfl, N11q, hh11⟩ := hQ11
  have N11 := Fr.app N6 N11q
  have f12 := f7
  rw [← hh11] at f12
  have f13 := f8
  rw [← hh11] at f13
  have f14 := f9
  rw [← hh11] at f14
  have f15 := f10
  rw [← hh11] at f15
  have sz11 : n0 ≤ T11.heap.size := by rw [hh11]; exact sz6
  show OwnG p e below s _ _ _ (T11.setTop (mkF m 447 _ [(.int 1)]))
  refine own_by (fun _ K => XS.ifNo X11.here hx rfl (hb hby at_447) rfl ((if0 _ _).trans (feq (by decide)).1) K) ?_
  show OwnG p e below s _ _ _ (T11.setTop (mkF m 450 _ []))
  refine own_by (fun _ K => XS.iconst X11.here hx rfl (hb hby at_450) K) ?_
  show OwnG p e below s _ _ _ (T11.setTop (mkF m 451 _ [(.int 1)]))
  refine own_by (fun _ K => XS.goto X11.here hx rfl (pc0 := 451) (pc' := 455) rfl (hb hby at_451) (by decide) (by decide) K) ?_
  show OwnG p e below s _ _ _ (T11.setTop (mkF m 455 _ [(.int 1)]))
  exact own_outN X11 hx hret (by simp) hlk (hb hby at_455) rfl (⟨rfl, N11⟩) (by decide) (by decide)
set_option maxRecDepth 65536 in
set_option maxHeartbeats 40000000 in
theorem own_e4 {p : Program} {l : Launch} {e : Env} {s : State} {m : MethodId} {args : Array Value} {below : List Frame} {meth : Method} {c : Code} {T0 : State} {locs : List Loc} {Z : State} {a0 : Array Value} {h0 : Heap} {n0 : Nat} (cnt sb pb mk : Int32) (sv pl : Int32 → Int32) (ob pa ss dd cc : Addr) (fp fss fdd fcc : Nat → Value) (r0 r1 r2 r3 : Int32) (X0 : Stand p l e room_1 s m args below meth c T0 locs (0 + 1 + 1 + 1 + 1 + 1 + 2) (0 + 4 + 4 + 4 + 4 + 5 + 32)) (hx : p.tables.exec = Jvm.exec) (hby : c.code = code) (hml : c.maxLocals = 11) (hret : meth.sig.returnType = some .boolean) (hlk : meth.locks = false) (hown : s.vm.findClass "com/example/etsinta/etsinta/search/BestRankPinLaw" = some m.cls) (hnm : meth.name = "law") (hZ : Z.Warmed39 s.vm) (hw : ∀ d ∈ tables_1, d.before a0 Z = true) (e0 : T0.heap = h0) (N0 : Fr n0 locs) (Z0 : n0 ≤ h0.size) (Ap : OwnA Z h0 pa .int 4 fp) (As : OwnA Z h0 ss .double 4 fss) (Ad : OwnA Z h0 dd .int 4 fdd) (Ac : OwnA Z h0 cc .double 4 fcc) (hP : own_P pl fp) (hss : ∀ d, own_ok d → fss d.toNatClampNeg = .double (FP.i2d (sv d))) (k_r0 : own_ok r0) (k_r1 : own_ok r1) (k_r2 : own_ok r2) (k_r3 : own_ok r3) (v1_0 : fdd 0 = .int r0) (v1_1 : fdd 1 = .int r1) (v1_2 : fdd 2 = .int r2) (v1_3 : fdd 3 = .int r3) (v2_0 : fcc 0 = .double (FP.i2d (sv r0))) (v2_1 : fcc 1 = .double (FP.i2d (sv r1))) (v2_2 : fcc 2 = .double (FP.i2d (sv r2))) (v2_3 : fcc 3 = .double (FP.i2d (sv r3))) (hb0 : ¬ r0 < 0 ∧ r0 < (4 : Int32)) (hb1 : ¬ r1 < 0 ∧ r1 < (4 : Int32)) (hb2 : ¬ r2 < 0 ∧ r2 < (4 : Int32)) (hb3 : ¬ r3 < 0 ∧ r3 < (4 : Int32)) (ho0 : ¬ own_K sv pl r0 < own_K sv pl r1) (ho1 : ¬ own_K sv pl r1 < own_K sv pl r2) (ho2 : ¬ own_K sv pl r2 < own_K sv pl r3) (hm : ((((1 : Int32) <<< (r0 &&& 31)) ||| ((1 : Int32) <<< (r1 &&& 31))) ||| ((1 : Int32) <<< (r2 &&& 31))) ||| ((1 : Int32) <<< (r3 &&& 31)) = ((1 : Int32) <<< ((4 : Int32) &&& 31)) - (1 : Int32)) :
    OwnG p e below s (fun v h L => v = some (.int 1) ∧ Fr n0 L) room_1.cells room_1.slots (T0.setTop (mkF m 293 #[.val (.int cnt), .val (.int sb), .val (.int pb), .val (.int 4), .val (.ref ss), .val (.ref pa), .val (.ref dd), .val (.ref cc), .val (.ref ob), .unset, .unset] [])) := by
  show OwnG p e below s _ _ _ (T0.setTop (mkF m 293 #[.val (.int cnt), .val (.int sb), .val (.int pb), .val (.int 4), .val (.ref ss), .val (.ref pa), .val (.ref dd), .val (.ref cc), .val (.ref ob), .unset, .unset] []))
  refine own_by (fun _ K => XS.aload X0.here hx rfl (hb hby at_293) rfl rfl K) ?_
  show OwnG p e below s _ _ _ (T0.setTop (mkF m 295 _ [(.ref dd)]))
  refine own_by (fun _ K => XS.aload X0.here hx rfl (hb hby at_295) rfl rfl K) ?_
  show OwnG p e below s _ _ _ (T0.setTop (mkF m 297 _ [(.ref cc), (.ref dd)]))
  refine own_by (fun _ K => XS.aload X0.here hx rfl (hb hby at_297) rfl rfl K) ?_
  show OwnG p e below s _ _ _ (T0.setTop (mkF m 299 _ [(.ref ss), (.ref cc), (.ref dd)]))
  refine own_by (fun _ K => XS.iloadN X0.here hx rfl (hb hby at_299) rfl K) ?_
  show OwnG p e below s _ _ _ (T0.setTop (mkF m 300 _ [(.int 4), (.ref ss), (.ref cc), (.ref dd)]))
  refine own_by (fun _ K => XS.iconst X0.here hx rfl (hb hby at_300) K) ?_
  show OwnG p e below s _ _ _ (T0.setTop (mkF m 301 _ [(.int 0), (.int 4), (.ref ss), (.ref cc), (.ref dd)]))
  obtain ⟨_, _, ⟨T1, L1, k1, n1⟩, -, X1, ⟨Lc1, hQ1, l1, y1, z1⟩, st1⟩ := Jvm.LawKit.callS X0 hx (y := (⟨"com/example/etsinta/etsinta/search/BestRankPinLaw", "entryOk", "([I[D[DII)Z"⟩ : MethodName)) hown (mvT hZ (own_w hw 32 rfl)) (mvT hZ (own_w hw 33 rfl)) (mvT hZ (own_w hw 34 rfl)) (mvT hZ (own_w hw 35 rfl)) (by decide) (backOf (W := 0) (rm5p l Z a0 hw [] sv dd cc ss (4 : Int32) (0 : Int32) r0 0 fdd fcc fss h0 n0 Z0 Ad Ac As (by decide) ⟨by decide, rfl, by decide⟩ hb0 k_r0 v1_0 v2_0 (hss r0 k_r0)) hZ (own_w hw 35 rfl) (own_w hw 34 rfl) (by decide) (by decide)) (g := (mkF m 301 #[.val (.int cnt), .val (.int sb), .val (.int pb), .val (.int 4), .val (.ref ss), .val (.ref pa), .val (.ref dd), .val (.ref cc), .val (.ref ob), .unset, .unset] [(.int 0), (.int 4), (.ref ss), (.ref cc), (.ref dd)])) rfl (by rw [hml]; rfl) (argsL := [(.ref dd), (.ref cc), (.ref ss), (.int 4), (.int 0)]) (rest := []) (lenOf pd_11 rfl) rfl (by show 2 * 0 + _ ≤ _; exact Nat.le_of_eq rfl) (hb hby at_301) (fun _ _ => ⟨rfl, e0, (by decide : 0 + 1 + 1 + 1 + 1 + 1 + 2 + 0 ≤ _), (by decide : 0 + 4 + 4 + 4 + 4 + 5 + 32 + 0 ≤ _)⟩)
  dsimp only [Pt.U, Pt.locs, Pt.cells, Pt.slots] at X1 l1 y1 z1 st1 hQ1
  subst l1 y1 z1
  refine own_by (fun _ K => st1 _ K) ?_
  obtain ⟨rfl, N1q, hh1⟩ := hQ1
  have N1 := Fr.app N0 N1q
  have f2 := Ap
  rw [← hh1] at f2
  have f3 := As
  rw [← hh1] at f3
  have f4 := Ad
  rw [← hh1] at f4
  have f5 := Ac
  rw [← hh1] at f5
  have sz1 : n0 ≤ T1.heap.size := by rw [hh1]; exact Z0
  show OwnG p e below s _ _ _ (T1.setTop (mkF m 304 _ [(.int 1)]))
  refine own_by (fun _ K => XS.ifNo X1.here hx rfl (hb hby at_304) rfl ((if0 _ _).trans (feq (by decide)).1) K) ?_
  show OwnG p e below s _ _ _ (T1.setTop (mkF m 307 _ []))
  refine own_by (fun _ K => XS.aload X1.here hx rfl (hb hby at_307) rfl rfl K) ?_
  show OwnG p e below s _ _ _ (T1.setTop (mkF m 309 _ [(.ref dd)]))
  refine own_by (fun _ K => XS.aload X1.here hx rfl (hb hby at_309) rfl rfl K) ?_
  show OwnG p e below s _ _ _ (T1.setTop (mkF m 311 _ [(.ref cc), (.ref dd)]))
  refine own_by (fun _ K => XS.aload X1.here hx rfl (hb hby at_311) rfl rfl K) ?_
  show OwnG p e below s _ _ _ (T1.setTop (mkF m 313 _ [(.ref ss), (.ref cc), (.ref dd)]))
  refine own_by (fun _ K => XS.iloadN X1.here hx rfl (hb hby at_313) rfl K) ?_
  show OwnG p e below s _ _ _ (T1.setTop (mkF m 314 _ [(.int 4), (.ref ss), (.ref cc), (.ref dd)]))
  refine own_by (fun _ K => XS.iconst X1.here hx rfl (hb hby at_314) K) ?_
  show OwnG p e below s _ _ _ (T1.setTop (mkF m 315 _ [(.int 1), (.int 4), (.ref ss), (.ref cc), (.ref dd)]))
  obtain ⟨_, _, ⟨T6, L6, k6, n6⟩, -, X6, ⟨Lc6, hQ6, l6, y6, z6⟩, st6⟩ := Jvm.LawKit.callS X1 hx (y := (⟨"com/example/etsinta/etsinta/search/BestRankPinLaw", "entryOk", "([I[D[DII)Z"⟩ : MethodName)) hown (mvT hZ (own_w hw 32 rfl)) (mvT hZ (own_w hw 33 rfl)) (mvT hZ (own_w hw 34 rfl)) (mvT hZ (own_w hw 35 rfl)) (by decide) (backOf (W := 0) (rm5p l Z a0 hw [] sv dd cc ss (4 : Int32) (1 : Int32) r1 1 fdd fcc fss T1.heap n0 sz1 f4 f5 f3 (by decide) ⟨by decide, rfl, by decide⟩ hb1 k_r1 v1_1 v2_1 (hss r1 k_r1)) hZ (own_w hw 35 rfl) (own_w hw 34 rfl) (by decide) (by decide)) (g := (mkF m 315 #[.val (.int cnt), .val (.int sb), .val (.int pb), .val (.int 4), .val (.ref ss), .val (.ref pa), .val (.ref dd), .val (.ref cc), .val (.ref ob), .unset, .unset] [(.int 1), (.int 4), (.ref ss), (.ref cc), (.ref dd)])) rfl (by rw [hml]; rfl) (argsL := [(.ref dd), (.ref cc), (.ref ss), (.int 4), (.int 1)]) (rest := []) (lenOf pd_11 rfl) rfl (by show 2 * 0 + _ ≤ _; exact Nat.le_of_eq rfl) (hb hby at_315) (fun _ _ => ⟨rfl, (rfl : T1.heap = T1.heap), (by decide : 0 + 1 + 1 + 1 + 1 + 1 + 2 + 0 ≤ _), (by decide : 0 + 4 + 4 + 4 + 4 + 5 + 32 + 0 ≤ _)⟩)
  dsimp only [Pt.U, Pt.locs, Pt.cells, Pt.slots] at X6 l6 y6 z6 st6 hQ6
  subst l6 y6 z6
  refine own_by (fun _ K => st6 _ K) ?_
  obtain ⟨rfl, N6q, hh6⟩ := hQ6
  have N6 := Fr.app N1 N6q
  have f7 := f2
  rw [← hh6] at f7
  have f8 := f3
  rw [← hh6] at f8
  have f9 := f4
  rw [← hh6] at f9
  have f10 := f5
  rw [← hh6] at f10
  have sz6 : n0 ≤ T6.heap.size := by rw [hh6]; exact sz1
  show OwnG p e below s _ _ _ (T6.setTop (mkF m 318 _ [(.int 1)]))
  refine own_by (fun _ K => XS.ifNo X6.here hx rfl (hb hby at_318) rfl ((if0 _ _).trans (feq (by decide)).1) K) ?_
  show OwnG p e below s _ _ _ (T6.setTop (mkF m 321 _ []))
  refine own_by (fun _ K => XS.aload X6.here hx rfl (hb hby at_321) rfl rfl K) ?_
  show OwnG p e below s _ _ _ (T6.setTop (mkF m 323 _ [(.ref dd)]))
  refine own_by (fun _ K => XS.aload X6.here hx rfl (hb hby at_323) rfl rfl K) ?_
  show OwnG p e below s _ _ _ (T6.setTop (mkF m 325 _ [(.ref cc), (.ref dd)]))
  refine own_by (fun _ K => XS.aload X6.here hx rfl (hb hby at_325) rfl rfl K) ?_
  show OwnG p e below s _ _ _ (T6.setTop (mkF m 327 _ [(.ref ss), (.ref cc), (.ref dd)]))
  refine own_by (fun _ K => XS.iloadN X6.here hx rfl (hb hby at_327) rfl K) ?_
  show OwnG p e below s _ _ _ (T6.setTop (mkF m 328 _ [(.int 4), (.ref ss), (.ref cc), (.ref dd)]))
  refine own_by (fun _ K => XS.iconst X6.here hx rfl (hb hby at_328) K) ?_
  show OwnG p e below s _ _ _ (T6.setTop (mkF m 329 _ [(.int 2), (.int 4), (.ref ss), (.ref cc), (.ref dd)]))
  obtain ⟨_, _, ⟨T11, L11, k11, n11⟩, -, X11, ⟨Lc11, hQ11, l11, y11, z11⟩, st11⟩ := Jvm.LawKit.callS X6 hx (y := (⟨"com/example/etsinta/etsinta/search/BestRankPinLaw", "entryOk", "([I[D[DII)Z"⟩ : MethodName)) hown (mvT hZ (own_w hw 32 rfl)) (mvT hZ (own_w hw 33 rfl)) (mvT hZ (own_w hw 34 rfl)) (mvT hZ (own_w hw 35 rfl)) (by decide) (backOf (W := 0) (rm5p l Z a0 hw [] sv dd cc ss (4 : Int32) (2 : Int32) r2 2 fdd fcc fss T6.heap n0 sz6 f9 f10 f8 (by decide) ⟨by decide, rfl, by decide⟩ hb2 k_r2 v1_2 v2_2 (hss r2 k_r2)) hZ (own_w hw 35 rfl) (own_w hw 34 rfl) (by decide) (by decide)) (g := (mkF m 329 #[.val (.int cnt), .val (.int sb), .val (.int pb), .val (.int 4), .val (.ref ss), .val (.ref pa), .val (.ref dd), .val (.ref cc), .val (.ref ob), .unset, .unset] [(.int 2), (.int 4), (.ref ss), (.ref cc), (.ref dd)])) rfl (by rw [hml]; rfl) (argsL := [(.ref dd), (.ref cc), (.ref ss), (.int 4), (.int 2)]) (rest := []) (lenOf pd_11 rfl) rfl (by show 2 * 0 + _ ≤ _; exact Nat.le_of_eq rfl) (hb hby at_329) (fun _ _ => ⟨rfl, (rfl : T6.heap = T6.heap), (by decide : 0 + 1 + 1 + 1 + 1 + 1 + 2 + 0 ≤ _), (by decide : 0 + 4 + 4 + 4 + 4 + 5 + 32 + 0 ≤ _)⟩)
  dsimp only [Pt.U, Pt.locs, Pt.cells, Pt.slots] at X11 l11 y11 z11 st11 hQ11
  subst l11 y11 z11
  refine own_by (fun _ K => st11 _ K) ?_
  obtain ⟨rfl, N11q, hh11⟩ := hQ11
  have N11 := Fr.app N6 N11q
  have f12 := f7
  rw [← hh11] at f12
  have f13 := f8
  rw [← hh11] at f13
  have f14 := f9
  rw [← hh11] at f14
  have f15 := f10
  rw [← hh11] at f15
  have sz11 : n0 ≤ T11.heap.size := by rw [hh11]; exact sz6
  show OwnG p e below s _ _ _ (T11.setTop (mkF m 332 _ [(.int 1)]))
  refine own_by (fun _ K => XS.ifNo X11.here hx rfl (hb hby at_332) rfl ((if0 _ _).trans (feq (by decide)).1) K) ?_
  show OwnG p e below s _ _ _ (T11.setTop (mkF m 335 _ []))
  refine own_by (fun _ K => XS.aload X11.here hx rfl (hb hby at_335) rfl rfl K) ?_
  show OwnG p e below s _ _ _ (T11.setTop (mkF m 337 _ [(.ref dd)]))
  refine own_by (fun _ K => XS.aload X11.here hx rfl (hb hby at_337) rfl rfl K) ?_
  show OwnG p e below s _ _ _ (T11.setTop (mkF m 339 _ [(.ref cc), (.ref dd)]))
  refine own_by (fun _ K => XS.aload X11.here hx rfl (hb hby at_339) rfl rfl K) ?_
  show OwnG p e below s _ _ _ (T11.setTop (mkF m 341 _ [(.ref ss), (.ref cc), (.ref dd)]))
  refine own_by (fun _ K => XS.iloadN X11.here hx rfl (hb hby at_341) rfl K) ?_
  show OwnG p e below s _ _ _ (T11.setTop (mkF m 342 _ [(.int 4), (.ref ss), (.ref cc), (.ref dd)]))
  refine own_by (fun _ K => XS.iconst X11.here hx rfl (hb hby at_342) K) ?_
  show OwnG p e below s _ _ _ (T11.setTop (mkF m 343 _ [(.int 3), (.int 4), (.ref ss), (.ref cc), (.ref dd)]))
  obtain ⟨_, _, ⟨T16, L16, k16, n16⟩, -, X16, ⟨Lc16, hQ16, l16, y16, z16⟩, st16⟩ := Jvm.LawKit.callS X11 hx (y := (⟨"com/example/etsinta/etsinta/search/BestRankPinLaw", "entryOk", "([I[D[DII)Z"⟩ : MethodName)) hown (mvT hZ (own_w hw 32 rfl)) (mvT hZ (own_w hw 33 rfl)) (mvT hZ (own_w hw 34 rfl)) (mvT hZ (own_w hw 35 rfl)) (by decide) (backOf (W := 0) (rm5p l Z a0 hw [] sv dd cc ss (4 : Int32) (3 : Int32) r3 3 fdd fcc fss T11.heap n0 sz11 f14 f15 f13 (by decide) ⟨by decide, rfl, by decide⟩ hb3 k_r3 v1_3 v2_3 (hss r3 k_r3)) hZ (own_w hw 35 rfl) (own_w hw 34 rfl) (by decide) (by decide)) (g := (mkF m 343 #[.val (.int cnt), .val (.int sb), .val (.int pb), .val (.int 4), .val (.ref ss), .val (.ref pa), .val (.ref dd), .val (.ref cc), .val (.ref ob), .unset, .unset] [(.int 3), (.int 4), (.ref ss), (.ref cc), (.ref dd)])) rfl (by rw [hml]; rfl) (argsL := [(.ref dd), (.ref cc), (.ref ss), (.int 4), (.int 3)]) (rest := []) (lenOf pd_11 rfl) rfl (by show 2 * 0 + _ ≤ _; exact Nat.le_of_eq rfl) (hb hby at_343) (fun _ _ => ⟨rfl, (rfl : T11.heap = T11.heap), (by decide : 0 + 1 + 1 + 1 + 1 + 1 + 2 + 0 ≤ _), (by decide : 0 + 4 + 4 + 4 + 4 + 5 + 32 + 0 ≤ _)⟩)
  dsimp only [Pt.U, Pt.locs, Pt.cells, Pt.slots] at X16 l16 y16 z16 st16 hQ16
  subst l16 y16 z16
  refine own_by (fun _ K => st16 _ K) ?_
  obtain ⟨rfl, N16q, hh16⟩ := hQ16
  have N16 := Fr.app N11 N16q
  have f17 := f12
  rw [← hh16] at f17
  have f18 := f13
  rw [← hh16] at f18
  have f19 := f14
  rw [← hh16] at f19
  have f20 := f15
  rw [← hh16] at f20
  have sz16 : n0 ≤ T16.heap.size := by rw [hh16]; exact sz11
  show OwnG p e below s _ _ _ (T16.setTop (mkF m 346 _ [(.int 1)]))
  refine own_by (fun _ K => XS.ifNo X16.here hx rfl (hb hby at_346) rfl ((if0 _ _).trans (feq (by decide)).1) K) ?_
  show OwnG p e below s _ _ _ (T16.setTop (mkF m 349 _ []))
  refine own_by (fun _ K => XS.iconst X16.here hx rfl (hb hby at_349) K) ?_
  show OwnG p e below s _ _ _ (T16.setTop (mkF m 350 _ [(.int 1)]))
  refine own_by (fun _ K => XS.goto X16.here hx rfl (pc0 := 350) (pc' := 354) rfl (hb hby at_350) (by decide) (by decide) K) ?_
  show OwnG p e below s _ _ _ (T16.setTop (mkF m 354 _ [(.int 1)]))
  refine own_by (fun _ K => XS.istore X16.here hx rfl (hb hby at_354) rfl (l' := #[.val (.int cnt), .val (.int sb), .val (.int pb), .val (.int 4), .val (.ref ss), .val (.ref pa), .val (.ref dd), .val (.ref cc), .val (.ref ob), .val (.int 1), .unset]) rfl K) ?_
  show OwnG p e below s _ _ _ (T16.setTop (mkF m 356 _ []))
  refine own_by (fun _ K => XS.iload X16.here hx rfl (hb hby at_356) rfl K) ?_
  show OwnG p e below s _ _ _ (T16.setTop (mkF m 358 _ [(.int 1)]))
  refine own_by (fun _ K => XS.ifYes X16.here hx rfl (pc0 := 358) (pc' := 363) rfl (hb hby at_358) rfl ((if0 _ _).trans (feq (by decide)).2) (by decide) (by decide) K) ?_
  show OwnG p e below s _ _ _ (T16.setTop (mkF m 363 _ []))
  refine own_by (fun _ K => XS.aload X16.here hx rfl (hb hby at_363) rfl rfl K) ?_
  show OwnG p e below s _ _ _ (T16.setTop (mkF m 365 _ [(.ref dd)]))
  refine own_by (fun _ K => XS.iloadN X16.here hx rfl (hb hby at_365) rfl K) ?_
  show OwnG p e below s _ _ _ (T16.setTop (mkF m 366 _ [(.int 4), (.ref dd)]))
  refine own_by (fun _ K => XS.iconst X16.here hx rfl (hb hby at_366) K) ?_
  show OwnG p e below s _ _ _ (T16.setTop (mkF m 367 _ [(.int 0), (.int 4), (.ref dd)]))
  obtain ⟨_, _, ⟨T21, L21, k21, n21⟩, -, X21, ⟨Lc21, hQ21, l21, y21, z21⟩, st21⟩ := Jvm.LawKit.callS X16 hx (y := (⟨"com/example/etsinta/etsinta/search/BestRankPinLaw", "bit", "([III)I"⟩ : MethodName)) hown (mvT hZ (own_w hw 36 rfl)) (mvT hZ (own_w hw 37 rfl)) (mvT hZ (own_w hw 34 rfl)) (mvT hZ (own_w hw 38 rfl)) (by decide) (backOf (W := 0) (rm6p l Z a0 hw [] dd (4 : Int32) (0 : Int32) r0 0 fdd T16.heap n0 sz16 f19 (by decide) ⟨by decide, rfl, by decide⟩ v1_0) hZ (own_w hw 38 rfl) (own_w hw 34 rfl) (by decide) (by decide)) (g := (mkF m 367 #[.val (.int cnt), .val (.int sb), .val (.int pb), .val (.int 4), .val (.ref ss), .val (.ref pa), .val (.ref dd), .val (.ref cc), .val (.ref ob), .val (.int 1), .unset] [(.int 0), (.int 4), (.ref dd)])) rfl (by rw [hml]; rfl) (argsL := [(.ref dd), (.int 4), (.int 0)]) (rest := []) (lenOf pd_12 rfl) rfl (by show 2 * 0 + _ ≤ _; exact Nat.le_of_eq rfl) (hb hby at_367) (fun _ _ => ⟨rfl, (rfl : T16.heap = T16.heap), (by decide : 0 + 1 + 1 + 1 + 1 + 1 + 2 + 0 ≤ _), (by decide : 0 + 4 + 4 + 4 + 4 + 5 + 32 + 0 ≤ _)⟩)
  dsimp only [Pt.U, Pt.locs, Pt.cells, Pt.slots] at X21 l21 y21 z21 st21 hQ21
  subst l21 y21 z21
  refine own_by (fun _ K => st21 _ K) ?_
  obtain ⟨rfl, N21q, hh21⟩ := hQ21
  have N21 := Fr.app N16 N21q
  have f22 := f17
  rw [← hh21] at f22
  have f23 := f18
  rw [← hh21] at f23
  have f24 := f19
  rw [← hh21] at f24
  have f25 := f20
  rw [← hh21] at f25
  have sz21 : n0 ≤ T21.heap.size := by rw [hh21]; exact sz16
  show OwnG p e below s _ _ _ (T21.setTop (mkF m 370 _ [(.int ((1 : Int32) <<< (r0 &&& 31)))]))
  refine own_by (fun _ K => XS.aload X21.here hx rfl (hb hby at_370) rfl rfl K) ?_
  show OwnG p e below s _ _ _ (T21.setTop (mkF m 372 _ [(.ref dd), (.int ((1 : Int32) <<< (r0 &&& 31)))]))
  refine own_by (fun _ K => XS.iloadN X21.here hx rfl (hb hby at_372) rfl K) ?_
  show OwnG p e below s _ _ _ (T21.setTop (mkF m 373 _ [(.int 4), (.ref dd), (.int ((1 : Int32) <<< (r0 &&& 31)))]))
  refine own_by (fun _ K => XS.iconst X21.here hx rfl (hb hby at_373) K) ?_
  show OwnG p e below s _ _ _ (T21.setTop (mkF m 374 _ [(.int 1), (.int 4), (.ref dd), (.int ((1 : Int32) <<< (r0 &&& 31)))]))
  obtain ⟨_, _, ⟨T26, L26, k26, n26⟩, -, X26, ⟨Lc26, hQ26, l26, y26, z26⟩, st26⟩ := Jvm.LawKit.callS X21 hx (y := (⟨"com/example/etsinta/etsinta/search/BestRankPinLaw", "bit", "([III)I"⟩ : MethodName)) hown (mvT hZ (own_w hw 36 rfl)) (mvT hZ (own_w hw 37 rfl)) (mvT hZ (own_w hw 34 rfl)) (mvT hZ (own_w hw 38 rfl)) (by decide) (backOf (W := 1) (rm6p l Z a0 hw [] dd (4 : Int32) (1 : Int32) r1 1 fdd T21.heap n0 sz21 f24 (by decide) ⟨by decide, rfl, by decide⟩ v1_1) hZ (own_w hw 38 rfl) (own_w hw 34 rfl) (by decide) (by decide)) (g := (mkF m 374 #[.val (.int cnt), .val (.int sb), .val (.int pb), .val (.int 4), .val (.ref ss), .val (.ref pa), .val (.ref dd), .val (.ref cc), .val (.ref ob), .val (.int 1), .unset] [(.int 1), (.int 4), (.ref dd), (.int ((1 : Int32) <<< (r0 &&& 31)))])) rfl (by rw [hml]; rfl) (argsL := [(.ref dd), (.int 4), (.int 1)]) (rest := [(.int ((1 : Int32) <<< (r0 &&& 31)))]) (lenOf pd_12 rfl) rfl (by show 2 * 0 + _ ≤ _; exact Nat.le_of_eq rfl) (hb hby at_374) (fun _ _ => ⟨rfl, (rfl : T21.heap = T21.heap), (by decide : 0 + 1 + 1 + 1 + 1 + 1 + 2 + 0 ≤ _), (by decide : 0 + 4 + 4 + 4 + 4 + 5 + 32 + 0 ≤ _)⟩)
  dsimp only [Pt.U, Pt.locs, Pt.cells, Pt.slots] at X26 l26 y26 z26 st26 hQ26
  subst l26 y26 z26
  refine own_by (fun _ K => st26 _ K) ?_
  obtain ⟨rfl, N26q, hh26⟩ := hQ26
  have N26 := Fr.app N21 N26q
  have f27 := f22
  rw [← hh26] at f27
  have f28 := f23
  rw [← hh26] at f28
  have f29 := f24
  rw [← hh26] at f29
  have f30 := f25
  rw [← hh26] at f30
  have sz26 : n0 ≤ T26.heap.size := by rw [hh26]; exact sz21
  show OwnG p e below s _ _ _ (T26.setTop (mkF m 377 _ [(.int ((1 : Int32) <<< (r1 &&& 31))), (.int ((1 : Int32) <<< (r0 &&& 31)))]))
  refine own_by (fun _ K => XS.ior X26.here hx rfl (hb hby at_377) rfl K) ?_
  show OwnG p e below s _ _ _ (T26.setTop (mkF m 378 _ [(.int (((1 : Int32) <<< (r0 &&& 31)) ||| ((1 : Int32) <<< (r1 &&& 31))))]))
  refine own_by (fun _ K => XS.aload X26.here hx rfl (hb hby at_378) rfl rfl K) ?_
  show OwnG p e below s _ _ _ (T26.setTop (mkF m 380 _ [(.ref dd), (.int (((1 : Int32) <<< (r0 &&& 31)) ||| ((1 : Int32) <<< (r1 &&& 31))))]))
  refine own_by (fun _ K => XS.iloadN X26.here hx rfl (hb hby at_380) rfl K) ?_
  show OwnG p e below s _ _ _ (T26.setTop (mkF m 381 _ [(.int 4), (.ref dd), (.int (((1 : Int32) <<< (r0 &&& 31)) ||| ((1 : Int32) <<< (r1 &&& 31))))]))
  refine own_by (fun _ K => XS.iconst X26.here hx rfl (hb hby at_381) K) ?_
  show OwnG p e below s _ _ _ (T26.setTop (mkF m 382 _ [(.int 2), (.int 4), (.ref dd), (.int (((1 : Int32) <<< (r0 &&& 31)) ||| ((1 : Int32) <<< (r1 &&& 31))))]))
  obtain ⟨_, _, ⟨T31, L31, k31, n31⟩, -, X31, ⟨Lc31, hQ31, l31, y31, z31⟩, st31⟩ := Jvm.LawKit.callS X26 hx (y := (⟨"com/example/etsinta/etsinta/search/BestRankPinLaw", "bit", "([III)I"⟩ : MethodName)) hown (mvT hZ (own_w hw 36 rfl)) (mvT hZ (own_w hw 37 rfl)) (mvT hZ (own_w hw 34 rfl)) (mvT hZ (own_w hw 38 rfl)) (by decide) (backOf (W := 1) (rm6p l Z a0 hw [] dd (4 : Int32) (2 : Int32) r2 2 fdd T26.heap n0 sz26 f29 (by decide) ⟨by decide, rfl, by decide⟩ v1_2) hZ (own_w hw 38 rfl) (own_w hw 34 rfl) (by decide) (by decide)) (g := (mkF m 382 #[.val (.int cnt), .val (.int sb), .val (.int pb), .val (.int 4), .val (.ref ss), .val (.ref pa), .val (.ref dd), .val (.ref cc), .val (.ref ob), .val (.int 1), .unset] [(.int 2), (.int 4), (.ref dd), (.int (((1 : Int32) <<< (r0 &&& 31)) ||| ((1 : Int32) <<< (r1 &&& 31))))])) rfl (by rw [hml]; rfl) (argsL := [(.ref dd), (.int 4), (.int 2)]) (rest := [(.int (((1 : Int32) <<< (r0 &&& 31)) ||| ((1 : Int32) <<< (r1 &&& 31))))]) (lenOf pd_12 rfl) rfl (by show 2 * 0 + _ ≤ _; exact Nat.le_of_eq rfl) (hb hby at_382) (fun _ _ => ⟨rfl, (rfl : T26.heap = T26.heap), (by decide : 0 + 1 + 1 + 1 + 1 + 1 + 2 + 0 ≤ _), (by decide : 0 + 4 + 4 + 4 + 4 + 5 + 32 + 0 ≤ _)⟩)
  dsimp only [Pt.U, Pt.locs, Pt.cells, Pt.slots] at X31 l31 y31 z31 st31 hQ31
  subst l31 y31 z31
  refine own_by (fun _ K => st31 _ K) ?_
  obtain ⟨rfl, N31q, hh31⟩ := hQ31
  have N31 := Fr.app N26 N31q
  have f32 := f27
  rw [← hh31] at f32
  have f33 := f28
  rw [← hh31] at f33
  have f34 := f29
  rw [← hh31] at f34
  have f35 := f30
  rw [← hh31] at f35
  have sz31 : n0 ≤ T31.heap.size := by rw [hh31]; exact sz26
  show OwnG p e below s _ _ _ (T31.setTop (mkF m 385 _ [(.int ((1 : Int32) <<< (r2 &&& 31))), (.int (((1 : Int32) <<< (r0 &&& 31)) ||| ((1 : Int32) <<< (r1 &&& 31))))]))
  refine own_by (fun _ K => XS.ior X31.here hx rfl (hb hby at_385) rfl K) ?_
  show OwnG p e below s _ _ _ (T31.setTop (mkF m 386 _ [(.int ((((1 : Int32) <<< (r0 &&& 31)) ||| ((1 : Int32) <<< (r1 &&& 31))) ||| ((1 : Int32) <<< (r2 &&& 31))))]))
  refine own_by (fun _ K => XS.aload X31.here hx rfl (hb hby at_386) rfl rfl K) ?_
  show OwnG p e below s _ _ _ (T31.setTop (mkF m 388 _ [(.ref dd), (.int ((((1 : Int32) <<< (r0 &&& 31)) ||| ((1 : Int32) <<< (r1 &&& 31))) ||| ((1 : Int32) <<< (r2 &&& 31))))]))
  refine own_by (fun _ K => XS.iloadN X31.here hx rfl (hb hby at_388) rfl K) ?_
  show OwnG p e below s _ _ _ (T31.setTop (mkF m 389 _ [(.int 4), (.ref dd), (.int ((((1 : Int32) <<< (r0 &&& 31)) ||| ((1 : Int32) <<< (r1 &&& 31))) ||| ((1 : Int32) <<< (r2 &&& 31))))]))
  refine own_by (fun _ K => XS.iconst X31.here hx rfl (hb hby at_389) K) ?_
  show OwnG p e below s _ _ _ (T31.setTop (mkF m 390 _ [(.int 3), (.int 4), (.ref dd), (.int ((((1 : Int32) <<< (r0 &&& 31)) ||| ((1 : Int32) <<< (r1 &&& 31))) ||| ((1 : Int32) <<< (r2 &&& 31))))]))
  obtain ⟨_, _, ⟨T36, L36, k36, n36⟩, -, X36, ⟨Lc36, hQ36, l36, y36, z36⟩, st36⟩ := Jvm.LawKit.callS X31 hx (y := (⟨"com/example/etsinta/etsinta/search/BestRankPinLaw", "bit", "([III)I"⟩ : MethodName)) hown (mvT hZ (own_w hw 36 rfl)) (mvT hZ (own_w hw 37 rfl)) (mvT hZ (own_w hw 34 rfl)) (mvT hZ (own_w hw 38 rfl)) (by decide) (backOf (W := 1) (rm6p l Z a0 hw [] dd (4 : Int32) (3 : Int32) r3 3 fdd T31.heap n0 sz31 f34 (by decide) ⟨by decide, rfl, by decide⟩ v1_3) hZ (own_w hw 38 rfl) (own_w hw 34 rfl) (by decide) (by decide)) (g := (mkF m 390 #[.val (.int cnt), .val (.int sb), .val (.int pb), .val (.int 4), .val (.ref ss), .val (.ref pa), .val (.ref dd), .val (.ref cc), .val (.ref ob), .val (.int 1), .unset] [(.int 3), (.int 4), (.ref dd), (.int ((((1 : Int32) <<< (r0 &&& 31)) ||| ((1 : Int32) <<< (r1 &&& 31))) ||| ((1 : Int32) <<< (r2 &&& 31))))])) rfl (by rw [hml]; rfl) (argsL := [(.ref dd), (.int 4), (.int 3)]) (rest := [(.int ((((1 : Int32) <<< (r0 &&& 31)) ||| ((1 : Int32) <<< (r1 &&& 31))) ||| ((1 : Int32) <<< (r2 &&& 31))))]) (lenOf pd_12 rfl) rfl (by show 2 * 0 + _ ≤ _; exact Nat.le_of_eq rfl) (hb hby at_390) (fun _ _ => ⟨rfl, (rfl : T31.heap = T31.heap), (by decide : 0 + 1 + 1 + 1 + 1 + 1 + 2 + 0 ≤ _), (by decide : 0 + 4 + 4 + 4 + 4 + 5 + 32 + 0 ≤ _)⟩)
  dsimp only [Pt.U, Pt.locs, Pt.cells, Pt.slots] at X36 l36 y36 z36 st36 hQ36
  subst l36 y36 z36
  refine own_by (fun _ K => st36 _ K) ?_
  obtain ⟨rfl, N36q, hh36⟩ := hQ36
  have N36 := Fr.app N31 N36q
  have f37 := f32
  rw [← hh36] at f37
  have f38 := f33
  rw [← hh36] at f38
  have f39 := f34
  rw [← hh36] at f39
  have f40 := f35
  rw [← hh36] at f40
  have sz36 : n0 ≤ T36.heap.size := by rw [hh36]; exact sz31
  show OwnG p e below s _ _ _ (T36.setTop (mkF m 393 _ [(.int ((1 : Int32) <<< (r3 &&& 31))), (.int ((((1 : Int32) <<< (r0 &&& 31)) ||| ((1 : Int32) <<< (r1 &&& 31))) ||| ((1 : Int32) <<< (r2 &&& 31))))]))
  refine own_by (fun _ K => XS.ior X36.here hx rfl (hb hby at_393) rfl K) ?_
  show OwnG p e below s _ _ _ (T36.setTop (mkF m 394 _ [(.int (((((1 : Int32) <<< (r0 &&& 31)) ||| ((1 : Int32) <<< (r1 &&& 31))) ||| ((1 : Int32) <<< (r2 &&& 31))) ||| ((1 : Int32) <<< (r3 &&& 31))))]))
  refine own_by (fun _ K => XS.istore X36.here hx rfl (hb hby at_394) rfl (l' := #[.val (.int cnt), .val (.int sb), .val (.int pb), .val (.int 4), .val (.ref ss), .val (.ref pa), .val (.ref dd), .val (.ref cc), .val (.ref ob), .val (.int 1), .val (.int (((((1 : Int32) <<< (r0 &&& 31)) ||| ((1 : Int32) <<< (r1 &&& 31))) ||| ((1 : Int32) <<< (r2 &&& 31))) ||| ((1 : Int32) <<< (r3 &&& 31))))]) rfl K) ?_
  show OwnG p e below s _ _ _ (T36.setTop (mkF m 396 _ []))
  refine own_by (fun _ K => XS.iload X36.here hx rfl (hb hby at_396) rfl K) ?_
  show OwnG p e below s _ _ _ (T36.setTop (mkF m 398 _ [(.int (((((1 : Int32) <<< (r0 &&& 31)) ||| ((1 : Int32) <<< (r1 &&& 31))) ||| ((1 : Int32) <<< (r2 &&& 31))) ||| ((1 : Int32) <<< (r3 &&& 31))))]))
  refine own_by (fun _ K => XS.iconst X36.here hx rfl (hb hby at_398) K) ?_
  show OwnG p e below s _ _ _ (T36.setTop (mkF m 399 _ [(.int 1), (.int (((((1 : Int32) <<< (r0 &&& 31)) ||| ((1 : Int32) <<< (r1 &&& 31))) ||| ((1 : Int32) <<< (r2 &&& 31))) ||| ((1 : Int32) <<< (r3 &&& 31))))]))
  refine own_by (fun _ K => XS.iloadN X36.here hx rfl (hb hby at_399) rfl K) ?_
  show OwnG p e below s _ _ _ (T36.setTop (mkF m 400 _ [(.int 4), (.int 1), (.int (((((1 : Int32) <<< (r0 &&& 31)) ||| ((1 : Int32) <<< (r1 &&& 31))) ||| ((1 : Int32) <<< (r2 &&& 31))) ||| ((1 : Int32) <<< (r3 &&& 31))))]))
  refine own_by (fun _ K => XS.ishl X36.here hx rfl (hb hby at_400) rfl K) ?_
  show OwnG p e below s _ _ _ (T36.setTop (mkF m 401 _ [(.int ((1 : Int32) <<< ((4 : Int32) &&& 31))), (.int (((((1 : Int32) <<< (r0 &&& 31)) ||| ((1 : Int32) <<< (r1 &&& 31))) ||| ((1 : Int32) <<< (r2 &&& 31))) ||| ((1 : Int32) <<< (r3 &&& 31))))]))
  refine own_by (fun _ K => XS.iconst X36.here hx rfl (hb hby at_401) K) ?_
  show OwnG p e below s _ _ _ (T36.setTop (mkF m 402 _ [(.int 1), (.int ((1 : Int32) <<< ((4 : Int32) &&& 31))), (.int (((((1 : Int32) <<< (r0 &&& 31)) ||| ((1 : Int32) <<< (r1 &&& 31))) ||| ((1 : Int32) <<< (r2 &&& 31))) ||| ((1 : Int32) <<< (r3 &&& 31))))]))
  refine own_by (fun _ K => XS.isub X36.here hx rfl (hb hby at_402) rfl K) ?_
  show OwnG p e below s _ _ _ (T36.setTop (mkF m 403 _ [(.int (((1 : Int32) <<< ((4 : Int32) &&& 31)) - (1 : Int32))), (.int (((((1 : Int32) <<< (r0 &&& 31)) ||| ((1 : Int32) <<< (r1 &&& 31))) ||| ((1 : Int32) <<< (r2 &&& 31))) ||| ((1 : Int32) <<< (r3 &&& 31))))]))
  refine own_by (fun _ K => XS.icmpYes X36.here hx rfl (pc0 := 403) (pc' := 408) rfl (hb hby at_403) rfl (teq hm).1 (by decide) (by decide) K) ?_
  show OwnG p e below s _ _ _ (T36.setTop (mkF m 408 _ []))
  exact own_o4 cnt sb pb _ sv pl ob pa ss dd cc fp fss fdd fcc r0 r1 r2 r3 X36 hx hby hml hret hlk hown hnm hZ hw (rfl : T36.heap = T36.heap) N36 sz36 f37 f38 f39 f40 hP hss k_r0 k_r1 k_r2 k_r3 v1_0 v1_1 v1_2 v1_3 v2_0 v2_1 v2_2 v2_3 hb0 hb1 hb2 hb3 ho0 ho1 ho2 hm
set_option maxRecDepth 65536 in
set_option maxHeartbeats 40000000 in
theorem own_r4 {p : Program} {l : Launch} {e : Env} {s : State} {m : MethodId} {args : Array Value} {below : List Frame} {meth : Method} {c : Code} {T0 : State} {locs : List Loc} {Z : State} {a0 : Array Value} {h0 : Heap} {n0 : Nat} (cnt sb pb : Int32) (sv pl : Int32 → Int32) (ob sa da pa ss dd cc : Addr) (fd fs fp fss : Nat → Value) (r0 r1 r2 r3 : Int32) (X0 : Stand p l e room_1 s m args below meth c T0 locs (0 + 1 + 1 + 1 + 1 + 1 + 2) (0 + 4 + 4 + 4 + 4 + 5 + 32)) (hx : p.tables.exec = Jvm.exec) (hby : c.code = code) (hml : c.maxLocals = 11) (hret : meth.sig.returnType = some .boolean) (hlk : meth.locks = false) (hown : s.vm.findClass "com/example/etsinta/etsinta/search/BestRankPinLaw" = some m.cls) (hnm : meth.name = "law") (hZ : Z.Warmed39 s.vm) (hw : ∀ d ∈ tables_1, d.before a0 Z = true) (e0 : T0.heap = h0) (N0 : Fr n0 locs) (Z0 : n0 ≤ h0.size) (Sb : own_S Z h0 ob sa da pa (4 : Int32) fd fs fp) (Nn : own_N n0 ob sa da pa) (Mm : own_M ob sa da pa ss dd cc) (hP : own_P pl fp) (hss : ∀ d, own_ok d → fss d.toNatClampNeg = .double (FP.i2d (sv d))) (As : OwnA Z h0 ss .double 4 fss) (Ad : OwnA Z h0 dd .int 4 (fun _ => (defaultValue .int))) (Ac : OwnA Z h0 cc .double 4 (fun _ => (defaultValue .double))) (gd : n0 ≤ dd) (gc : n0 ≤ cc) (t0 : own_at sv fd fs 0 r0) (t1 : own_at sv fd fs 1 r1) (t2 : own_at sv fd fs 2 r2) (t3 : own_at sv fd fs 3 r3) (hb0 : ¬ r0 < 0 ∧ r0 < (4 : Int32)) (hb1 : ¬ r1 < 0 ∧ r1 < (4 : Int32)) (hb2 : ¬ r2 < 0 ∧ r2 < (4 : Int32)) (hb3 : ¬ r3 < 0 ∧ r3 < (4 : Int32)) (ho0 : ¬ own_K sv pl r0 < own_K sv pl r1) (ho1 : ¬ own_K sv pl r1 < own_K sv pl r2) (ho2 : ¬ own_K sv pl r2 < own_K sv pl r3) (hm : ((((1 : Int32) <<< (r0 &&& 31)) ||| ((1 : Int32) <<< (r1 &&& 31))) ||| ((1 : Int32) <<< (r2 &&& 31))) ||| ((1 : Int32) <<< (r3 &&& 31)) = ((1 : Int32) <<< ((4 : Int32) &&& 31)) - (1 : Int32)) :
    OwnG p e below s (fun v h L => v = some (.int 1) ∧ Fr n0 L) room_1.cells room_1.slots (T0.setTop (mkF m 194 #[.val (.int cnt), .val (.int sb), .val (.int pb), .val (.int 4), .val (.ref ss), .val (.ref pa), .val (.ref dd), .val (.ref cc), .val (.ref ob), .unset, .unset] [])) := by
  show OwnG p e below s _ _ _ (T0.setTop (mkF m 194 #[.val (.int cnt), .val (.int sb), .val (.int pb), .val (.int 4), .val (.ref ss), .val (.ref pa), .val (.ref dd), .val (.ref cc), .val (.ref ob), .unset, .unset] []))
  refine own_by (fun _ K => XS.iloadN X0.here hx rfl (hb hby at_194) rfl K) ?_
  show OwnG p e below s _ _ _ (T0.setTop (mkF m 195 _ [(.int 4)]))
  refine own_by (fun _ K => XS.ifNo X0.here hx rfl (hb hby at_195) rfl ((if0 _ _).trans (tlt (by decide)).2.2.2) K) ?_
  show OwnG p e below s _ _ _ (T0.setTop (mkF m 198 _ []))
  refine own_by (fun _ K => XS.aload X0.here hx rfl (hb hby at_198) rfl rfl K) ?_
  show OwnG p e below s _ _ _ (T0.setTop (mkF m 200 _ [(.ref dd)]))
  refine own_by (fun _ K => XS.iconst X0.here hx rfl (hb hby at_200) K) ?_
  show OwnG p e below s _ _ _ (T0.setTop (mkF m 201 _ [(.int 0), (.ref dd)]))
  refine own_by (fun _ K => XS.aload X0.here hx rfl (hb hby at_201) rfl rfl K) ?_
  show OwnG p e below s _ _ _ (T0.setTop (mkF m 203 _ [(.ref ob), (.int 0), (.ref dd)]))
  refine own_by (fun _ K => XS.iconst X0.here hx rfl (hb hby at_203) K) ?_
  show OwnG p e below s _ _ _ (T0.setTop (mkF m 204 _ [(.int 0), (.ref ob), (.int 0), (.ref dd)]))
  obtain ⟨cq1, kq1, q1a, q1b, q1c⟩ := isOf hZ e0 Sb.1
  obtain ⟨_, _, ⟨T1, L1, k1, n1⟩, -, X1, ⟨Lc1, hQ1, l1, y1, z1⟩, st1⟩ := X0.virtualBack hx (y := (⟨"com/example/etsinta/etsinta/search/Best", "document", "(I)I"⟩ : MethodName)) (z := (⟨"com/example/etsinta/etsinta/search/Best", "document", "(I)I"⟩ : MethodName)) hown (mvT hZ (own_w hw 51 rfl)) (mvT hZ (own_w hw 52 rfl)) (notFace_of_selects (args := #[]) (mvT hZ (own_w hw 54 rfl))) (mvT hZ (own_w hw 54 rfl)) (mvT hZ (own_w hw 53 rfl)) (by decide) (backOf (W := 2) (rm10 l Z a0 hw [] ob sa da pa (4 : Int32) fd fs fp (0 : Int32) 0 r0 h0 n0 Z0 ⟨Sb.1, Sb.2.1, Sb.2.2.1, Sb.2.2.2.1, Sb.2.2.2.2.1, Sb.2.2.2.2.2.1, Sb.2.2.2.2.2.2.1, Sb.2.2.2.2.2.2.2.1, Sb.2.2.2.2.2.2.2.2⟩ ⟨by decide, rfl, by decide⟩ (by decide) t0.1) hZ (own_w hw 55 rfl) (own_w hw 5 rfl) (by decide) (by decide)) q1a q1c (g := (mkF m 204 #[.val (.int cnt), .val (.int sb), .val (.int pb), .val (.int 4), .val (.ref ss), .val (.ref pa), .val (.ref dd), .val (.ref cc), .val (.ref ob), .unset, .unset] [(.int 0), (.ref ob), (.int 0), (.ref dd)])) rfl (by rw [hml]; rfl) (Steps.refl _) (argsL := [(.int 0)]) (rest := [(.int 0), (.ref dd)]) (lenOf pd_9 rfl) rfl (by show 2 * 0 + _ ≤ _; exact Nat.le_of_eq rfl) (hb hby at_204) (fun _ _ => ⟨rfl, e0, (by decide : 0 + 1 + 1 + 1 + 1 + 1 + 2 + 0 ≤ _), (by decide : 0 + 4 + 4 + 4 + 4 + 5 + 32 + 0 ≤ _)⟩)
  dsimp only [Pt.U, Pt.locs, Pt.cells, Pt.slots] at X1 l1 y1 z1 st1 hQ1
  subst l1 y1 z1
  refine own_by (fun _ K => st1.trans K) ?_
  obtain ⟨rfl, N1q, hh1⟩ := hQ1
  have N1 := Fr.app N0 N1q
  have f2 := Sb.1
  rw [← hh1] at f2
  have f3 := Sb.2.1
  rw [← hh1] at f3
  have f4 := Sb.2.2.1
  rw [← hh1] at f4
  have f5 := Sb.2.2.2.1
  rw [← hh1] at f5
  have f6 := Sb.2.2.2.2.1
  rw [← hh1] at f6
  have f7 := Sb.2.2.2.2.2.1
  rw [← hh1] at f7
  have f8 := Sb.2.2.2.2.2.2.1
  rw [← hh1] at f8
  have f9 := Sb.2.2.2.2.2.2.2.1
  rw [← hh1] at f9
  have f10 := Sb.2.2.2.2.2.2.2.2
  rw [← hh1] at f10
  have f11 := As
  rw [← hh1] at f11
  have f12 := Ad
  rw [← hh1] at f12
  have f13 := Ac
  rw [← hh1] at f13
  have sz1 : n0 ≤ T1.heap.size := by rw [hh1]; exact Z0
  show OwnG p e below s _ _ _ (T1.setTop (mkF m 207 _ [(.int r0), (.int 0), (.ref dd)]))
  obtain ⟨T14, h14, X14, e14, W14, A14, st14⟩ := own_stI X1 hx hZ (rfl : T1.heap = T1.heap) f12 (j := (0 : Int32)) (i := 0) ⟨by decide, rfl, by decide⟩ (g := (mkF m 207 #[.val (.int cnt), .val (.int sb), .val (.int pb), .val (.int 4), .val (.ref ss), .val (.ref pa), .val (.ref dd), .val (.ref cc), .val (.ref ob), .unset, .unset] [(.int r0), (.int 0), (.ref dd)])) rfl rfl (hb hby at_207)
  refine own_by (fun _ K => st14 _ K) ?_
  have f15 := Exa.wr W14 f2
  have f16 := Fld.other W14 f3 (Or.inl (Ne.symm Mm.2.2.2.1))
  have f17 := Fld.other W14 f4 (Or.inl (Ne.symm Mm.2.2.2.1))
  have f18 := Fld.other W14 f5 (Or.inl (Ne.symm Mm.2.2.2.1))
  have f19 := Fld.other W14 f6 (Or.inl (Ne.symm Mm.2.2.2.1))
  have f20 := Fld.other W14 f7 (Or.inl (Ne.symm Mm.2.2.2.1))
  have f21 := OwnA.other W14 f8 (Ne.symm Mm.2.2.2.2.2.1)
  have f22 := OwnA.other W14 f9 (Ne.symm Mm.2.2.2.2.1)
  have f23 := OwnA.other W14 f10 Mm.2.2.2.2.2.2.2.2.2.2.1
  have f24 := OwnA.other W14 f11 Mm.2.2.2.2.2.2.2.2.2.1
  have f26 := OwnA.other W14 f13 (Ne.symm Mm.2.2.2.2.2.2.2.2.2.2.2.2.2)
  have N14 := Fr.snoc X14 N1 gd
  have sz14 : n0 ≤ h14.size := by rw [W14.size]; exact sz1
  show OwnG p e below s _ _ _ (T14.setTop (mkF m 208 _ []))
  refine own_by (fun _ K => XS.aload X14.here hx rfl (hb hby at_208) rfl rfl K) ?_
  show OwnG p e below s _ _ _ (T14.setTop (mkF m 210 _ [(.ref cc)]))
  refine own_by (fun _ K => XS.iconst X14.here hx rfl (hb hby at_210) K) ?_
  show OwnG p e below s _ _ _ (T14.setTop (mkF m 211 _ [(.int 0), (.ref cc)]))
  refine own_by (fun _ K => XS.aload X14.here hx rfl (hb hby at_211) rfl rfl K) ?_
  show OwnG p e below s _ _ _ (T14.setTop (mkF m 213 _ [(.ref ob), (.int 0), (.ref cc)]))
  refine own_by (fun _ K => XS.iconst X14.here hx rfl (hb hby at_213) K) ?_
  show OwnG p e below s _ _ _ (T14.setTop (mkF m 214 _ [(.int 0), (.ref ob), (.int 0), (.ref cc)]))
  obtain ⟨cq27, kq27, q27a, q27b, q27c⟩ := isOf hZ e14 f15
  obtain ⟨_, _, ⟨T27, L27, k27, n27⟩, -, X27, ⟨Lc27, hQ27, l27, y27, z27⟩, st27⟩ := X14.virtualBack hx (y := (⟨"com/example/etsinta/etsinta/search/Best", "score", "(I)D"⟩ : MethodName)) (z := (⟨"com/example/etsinta/etsinta/search/Best", "score", "(I)D"⟩ : MethodName)) hown (mvT hZ (own_w hw 64 rfl)) (mvT hZ (own_w hw 65 rfl)) (notFace_of_selects (args := #[]) (mvT hZ (own_w hw 67 rfl))) (mvT hZ (own_w hw 67 rfl)) (mvT hZ (own_w hw 66 rfl)) (by decide) (backOf (W := 2) (rm13 l Z a0 hw [] ob sa da pa (4 : Int32) fd fs fp (0 : Int32) 0 (FP.i2d (sv r0)) h14 n0 sz14 ⟨f15, f16, f17, f18, f19, f20, f21, f22, f23⟩ ⟨by decide, rfl, by decide⟩ (by decide) t0.2.1) hZ (own_w hw 68 rfl) (own_w hw 5 rfl) (by decide) (by decide)) q27a q27c (g := (mkF m 214 #[.val (.int cnt), .val (.int sb), .val (.int pb), .val (.int 4), .val (.ref ss), .val (.ref pa), .val (.ref dd), .val (.ref cc), .val (.ref ob), .unset, .unset] [(.int 0), (.ref ob), (.int 0), (.ref cc)])) rfl (by rw [hml]; rfl) (Steps.refl _) (argsL := [(.int 0)]) (rest := [(.int 0), (.ref cc)]) (lenOf pd_10 rfl) rfl (by show 2 * 0 + _ ≤ _; exact Nat.le_of_eq rfl) (hb hby at_214) (fun _ _ => ⟨rfl, e14, (by decide : 0 + 1 + 1 + 1 + 1 + 1 + 2 + 0 ≤ _), (by decide : 0 + 4 + 4 + 4 + 4 + 5 + 32 + 0 ≤ _)⟩)
  dsimp only [Pt.U, Pt.locs, Pt.cells, Pt.slots] at X27 l27 y27 z27 st27 hQ27
  subst l27 y27 z27
  refine own_by (fun _ K => st27.trans K) ?_
  obtain ⟨rfl, N27q, hh27⟩ := hQ27
  have N27 := Fr.app N14 N27q
  have f28 := f15
  rw [← hh27] at f28
  have f29 := f16
  rw [← hh27] at f29
  have f30 := f17
  rw [← hh27] at f30
  have f31 := f18
  rw [← hh27] at f31
  have f32 := f19
  rw [← hh27] at f32
  have f33 := f20
  rw [← hh27] at f33
  have f34 := f21
  rw [← hh27] at f34
  have f35 := f22
  rw [← hh27] at f35
  have f36 := f23
  rw [← hh27] at f36
  have f37 := f24
  rw [← hh27] at f37
  have f38 := A14
  rw [← hh27] at f38
  have f39 := f26
  rw [← hh27] at f39
  have sz27 : n0 ≤ T27.heap.size := by rw [hh27]; exact sz14
  show OwnG p e below s _ _ _ (T27.setTop (mkF m 217 _ [(.double (FP.i2d (sv r0))), (.int 0), (.ref cc)]))
  obtain ⟨T40, h40, X40, e40, W40, A40, st40⟩ := own_stD X27 hx hZ (rfl : T27.heap = T27.heap) f39 (j := (0 : Int32)) (i := 0) ⟨by decide, rfl, by decide⟩ (g := (mkF m 217 #[.val (.int cnt), .val (.int sb), .val (.int pb), .val (.int 4), .val (.ref ss), .val (.ref pa), .val (.ref dd), .val (.ref cc), .val (.ref ob), .unset, .unset] [(.double (FP.i2d (sv r0))), (.int 0), (.ref cc)])) rfl rfl (hb hby at_217)
  refine own_by (fun _ K => st40 _ K) ?_
  have f41 := Exa.wr W40 f28
  have f42 := Fld.other W40 f29 (Or.inl (Ne.symm Mm.2.2.2.2.2.2.1))
  have f43 := Fld.other W40 f30 (Or.inl (Ne.symm Mm.2.2.2.2.2.2.1))
  have f44 := Fld.other W40 f31 (Or.inl (Ne.symm Mm.2.2.2.2.2.2.1))
  have f45 := Fld.other W40 f32 (Or.inl (Ne.symm Mm.2.2.2.2.2.2.1))
  have f46 := Fld.other W40 f33 (Or.inl (Ne.symm Mm.2.2.2.2.2.2.1))
  have f47 := OwnA.other W40 f34 (Ne.symm Mm.2.2.2.2.2.2.2.2.1)
  have f48 := OwnA.other W40 f35 (Ne.symm Mm.2.2.2.2.2.2.2.1)
  have f49 := OwnA.other W40 f36 Mm.2.2.2.2.2.2.2.2.2.2.2.2.1
  have f50 := OwnA.other W40 f37 Mm.2.2.2.2.2.2.2.2.2.2.2.1
  have f51 := OwnA.other W40 f38 Mm.2.2.2.2.2.2.2.2.2.2.2.2.2
  have N40 := Fr.snoc X40 N27 gc
  have sz40 : n0 ≤ h40.size := by rw [W40.size]; exact sz27
  show OwnG p e below s _ _ _ (T40.setTop (mkF m 218 _ []))
  refine own_by (fun _ K => XS.iloadN X40.here hx rfl (hb hby at_218) rfl K) ?_
  show OwnG p e below s _ _ _ (T40.setTop (mkF m 219 _ [(.int 4)]))
  refine own_by (fun _ K => XS.iconst X40.here hx rfl (hb hby at_219) K) ?_
  show OwnG p e below s _ _ _ (T40.setTop (mkF m 220 _ [(.int 1), (.int 4)]))
  refine own_by (fun _ K => XS.icmpNo X40.here hx rfl (hb hby at_220) rfl (tlt (by decide)).2.2.2 K) ?_
  show OwnG p e below s _ _ _ (T40.setTop (mkF m 223 _ []))
  refine own_by (fun _ K => XS.aload X40.here hx rfl (hb hby at_223) rfl rfl K) ?_
  show OwnG p e below s _ _ _ (T40.setTop (mkF m 225 _ [(.ref dd)]))
  refine own_by (fun _ K => XS.iconst X40.here hx rfl (hb hby at_225) K) ?_
  show OwnG p e below s _ _ _ (T40.setTop (mkF m 226 _ [(.int 1), (.ref dd)]))
  refine own_by (fun _ K => XS.aload X40.here hx rfl (hb hby at_226) rfl rfl K) ?_
  show OwnG p e below s _ _ _ (T40.setTop (mkF m 228 _ [(.ref ob), (.int 1), (.ref dd)]))
  refine own_by (fun _ K => XS.iconst X40.here hx rfl (hb hby at_228) K) ?_
  show OwnG p e below s _ _ _ (T40.setTop (mkF m 229 _ [(.int 1), (.ref ob), (.int 1), (.ref dd)]))
  obtain ⟨cq53, kq53, q53a, q53b, q53c⟩ := isOf hZ e40 f41
  obtain ⟨_, _, ⟨T53, L53, k53, n53⟩, -, X53, ⟨Lc53, hQ53, l53, y53, z53⟩, st53⟩ := X40.virtualBack hx (y := (⟨"com/example/etsinta/etsinta/search/Best", "document", "(I)I"⟩ : MethodName)) (z := (⟨"com/example/etsinta/etsinta/search/Best", "document", "(I)I"⟩ : MethodName)) hown (mvT hZ (own_w hw 51 rfl)) (mvT hZ (own_w hw 52 rfl)) (notFace_of_selects (args := #[]) (mvT hZ (own_w hw 54 rfl))) (mvT hZ (own_w hw 54 rfl)) (mvT hZ (own_w hw 53 rfl)) (by decide) (backOf (W := 2) (rm10 l Z a0 hw [] ob sa da pa (4 : Int32) fd fs fp (1 : Int32) 1 r1 h40 n0 sz40 ⟨f41, f42, f43, f44, f45, f46, f47, f48, f49⟩ ⟨by decide, rfl, by decide⟩ (by decide) t1.1) hZ (own_w hw 55 rfl) (own_w hw 5 rfl) (by decide) (by decide)) q53a q53c (g := (mkF m 229 #[.val (.int cnt), .val (.int sb), .val (.int pb), .val (.int 4), .val (.ref ss), .val (.ref pa), .val (.ref dd), .val (.ref cc), .val (.ref ob), .unset, .unset] [(.int 1), (.ref ob), (.int 1), (.ref dd)])) rfl (by rw [hml]; rfl) (Steps.refl _) (argsL := [(.int 1)]) (rest := [(.int 1), (.ref dd)]) (lenOf pd_9 rfl) rfl (by show 2 * 0 + _ ≤ _; exact Nat.le_of_eq rfl) (hb hby at_229) (fun _ _ => ⟨rfl, e40, (by decide : 0 + 1 + 1 + 1 + 1 + 1 + 2 + 0 ≤ _), (by decide : 0 + 4 + 4 + 4 + 4 + 5 + 32 + 0 ≤ _)⟩)
  dsimp only [Pt.U, Pt.locs, Pt.cells, Pt.slots] at X53 l53 y53 z53 st53 hQ53
  subst l53 y53 z53
  refine own_by (fun _ K => st53.trans K) ?_
  obtain ⟨rfl, N53q, hh53⟩ := hQ53
  have N53 := Fr.app N40 N53q
  have f54 := f41
  rw [← hh53] at f54
  have f55 := f42
  rw [← hh53] at f55
  have f56 := f43
  rw [← hh53] at f56
  have f57 := f44
  rw [← hh53] at f57
  have f58 := f45
  rw [← hh53] at f58
  have f59 := f46
  rw [← hh53] at f59
  have f60 := f47
  rw [← hh53] at f60
  have f61 := f48
  rw [← hh53] at f61
  have f62 := f49
  rw [← hh53] at f62
  have f63 := f50
  rw [← hh53] at f63
  have f64 := f51
  rw [← hh53] at f64
  have f65 := A40
  rw [← hh53] at f65
  have sz53 : n0 ≤ T53.heap.size := by rw [hh53]; exact sz40
  show OwnG p e below s _ _ _ (T53.setTop (mkF m 232 _ [(.int r1), (.int 1), (.ref dd)]))
  obtain ⟨T66, h66, X66, e66, W66, A66, st66⟩ := own_stI X53 hx hZ (rfl : T53.heap = T53.heap) f64 (j := (1 : Int32)) (i := 1) ⟨by decide, rfl, by decide⟩ (g := (mkF m 232 #[.val (.int cnt), .val (.int sb), .val (.int pb), .val (.int 4), .val (.ref ss), .val (.ref pa), .val (.ref dd), .val (.ref cc), .val (.ref ob), .unset, .unset] [(.int r1), (.int 1), (.ref dd)])) rfl rfl (hb hby at_232)
  refine own_by (fun _ K => st66 _ K) ?_
  have f67 := Exa.wr W66 f54
  have f68 := Fld.other W66 f55 (Or.inl (Ne.symm Mm.2.2.2.1))
  have f69 := Fld.other W66 f56 (Or.inl (Ne.symm Mm.2.2.2.1))
  have f70 := Fld.other W66 f57 (Or.inl (Ne.symm Mm.2.2.2.1))
  have f71 := Fld.other W66 f58 (Or.inl (Ne.symm Mm.2.2.2.1))
  have f72 := Fld.other W66 f59 (Or.inl (Ne.symm Mm.2.2.2.1))
  have f73 := OwnA.other W66 f60 (Ne.symm Mm.2.2.2.2.2.1)
  have f74 := OwnA.other W66 f61 (Ne.symm Mm.2.2.2.2.1)
  have f75 := OwnA.other W66 f62 Mm.2.2.2.2.2.2.2.2.2.2.1
  have f76 := OwnA.other W66 f63 Mm.2.2.2.2.2.2.2.2.2.1
  have f78 := OwnA.other W66 f65 (Ne.symm Mm.2.2.2.2.2.2.2.2.2.2.2.2.2)
  have N66 := Fr.snoc X66 N53 gd
  have sz66 : n0 ≤ h66.size := by rw [W66.size]; exact sz53
  show OwnG p e below s _ _ _ (T66.setTop (mkF m 233 _ []))
  refine own_by (fun _ K => XS.aload X66.here hx rfl (hb hby at_233) rfl rfl K) ?_
  show OwnG p e below s _ _ _ (T66.setTop (mkF m 235 _ [(.ref cc)]))
  refine own_by (fun _ K => XS.iconst X66.here hx rfl (hb hby at_235) K) ?_
  show OwnG p e below s _ _ _ (T66.setTop (mkF m 236 _ [(.int 1), (.ref cc)]))
  refine own_by (fun _ K => XS.aload X66.here hx rfl (hb hby at_236) rfl rfl K) ?_
  show OwnG p e below s _ _ _ (T66.setTop (mkF m 238 _ [(.ref ob), (.int 1), (.ref cc)]))
  refine own_by (fun _ K => XS.iconst X66.here hx rfl (hb hby at_238) K) ?_
  show OwnG p e below s _ _ _ (T66.setTop (mkF m 239 _ [(.int 1), (.ref ob), (.int 1), (.ref cc)]))
  obtain ⟨cq79, kq79, q79a, q79b, q79c⟩ := isOf hZ e66 f67
  obtain ⟨_, _, ⟨T79, L79, k79, n79⟩, -, X79, ⟨Lc79, hQ79, l79, y79, z79⟩, st79⟩ := X66.virtualBack hx (y := (⟨"com/example/etsinta/etsinta/search/Best", "score", "(I)D"⟩ : MethodName)) (z := (⟨"com/example/etsinta/etsinta/search/Best", "score", "(I)D"⟩ : MethodName)) hown (mvT hZ (own_w hw 64 rfl)) (mvT hZ (own_w hw 65 rfl)) (notFace_of_selects (args := #[]) (mvT hZ (own_w hw 67 rfl))) (mvT hZ (own_w hw 67 rfl)) (mvT hZ (own_w hw 66 rfl)) (by decide) (backOf (W := 2) (rm13 l Z a0 hw [] ob sa da pa (4 : Int32) fd fs fp (1 : Int32) 1 (FP.i2d (sv r1)) h66 n0 sz66 ⟨f67, f68, f69, f70, f71, f72, f73, f74, f75⟩ ⟨by decide, rfl, by decide⟩ (by decide) t1.2.1) hZ (own_w hw 68 rfl) (own_w hw 5 rfl) (by decide) (by decide)) q79a q79c (g := (mkF m 239 #[.val (.int cnt), .val (.int sb), .val (.int pb), .val (.int 4), .val (.ref ss), .val (.ref pa), .val (.ref dd), .val (.ref cc), .val (.ref ob), .unset, .unset] [(.int 1), (.ref ob), (.int 1), (.ref cc)])) rfl (by rw [hml]; rfl) (Steps.refl _) (argsL := [(.int 1)]) (rest := [(.int 1), (.ref cc)]) (lenOf pd_10 rfl) rfl (by show 2 * 0 + _ ≤ _; exact Nat.le_of_eq rfl) (hb hby at_239) (fun _ _ => ⟨rfl, e66, (by decide : 0 + 1 + 1 + 1 + 1 + 1 + 2 + 0 ≤ _), (by decide : 0 + 4 + 4 + 4 + 4 + 5 + 32 + 0 ≤ _)⟩)
  dsimp only [Pt.U, Pt.locs, Pt.cells, Pt.slots] at X79 l79 y79 z79 st79 hQ79
  subst l79 y79 z79
  refine own_by (fun _ K => st79.trans K) ?_
  obtain ⟨rfl, N79q, hh79⟩ := hQ79
  have N79 := Fr.app N66 N79q
  have f80 := f67
  rw [← hh79] at f80
  have f81 := f68
  rw [← hh79] at f81
  have f82 := f69
  rw [← hh79] at f82
  have f83 := f70
  rw [← hh79] at f83
  have f84 := f71
  rw [← hh79] at f84
  have f85 := f72
  rw [← hh79] at f85
  have f86 := f73
  rw [← hh79] at f86
  have f87 := f74
  rw [← hh79] at f87
  have f88 := f75
  rw [← hh79] at f88
  have f89 := f76
  rw [← hh79] at f89
  have f90 := A66
  rw [← hh79] at f90
  have f91 := f78
  rw [← hh79] at f91
  have sz79 : n0 ≤ T79.heap.size := by rw [hh79]; exact sz66
  show OwnG p e below s _ _ _ (T79.setTop (mkF m 242 _ [(.double (FP.i2d (sv r1))), (.int 1), (.ref cc)]))
  obtain ⟨T92, h92, X92, e92, W92, A92, st92⟩ := own_stD X79 hx hZ (rfl : T79.heap = T79.heap) f91 (j := (1 : Int32)) (i := 1) ⟨by decide, rfl, by decide⟩ (g := (mkF m 242 #[.val (.int cnt), .val (.int sb), .val (.int pb), .val (.int 4), .val (.ref ss), .val (.ref pa), .val (.ref dd), .val (.ref cc), .val (.ref ob), .unset, .unset] [(.double (FP.i2d (sv r1))), (.int 1), (.ref cc)])) rfl rfl (hb hby at_242)
  refine own_by (fun _ K => st92 _ K) ?_
  have f93 := Exa.wr W92 f80
  have f94 := Fld.other W92 f81 (Or.inl (Ne.symm Mm.2.2.2.2.2.2.1))
  have f95 := Fld.other W92 f82 (Or.inl (Ne.symm Mm.2.2.2.2.2.2.1))
  have f96 := Fld.other W92 f83 (Or.inl (Ne.symm Mm.2.2.2.2.2.2.1))
  have f97 := Fld.other W92 f84 (Or.inl (Ne.symm Mm.2.2.2.2.2.2.1))
  have f98 := Fld.other W92 f85 (Or.inl (Ne.symm Mm.2.2.2.2.2.2.1))
  have f99 := OwnA.other W92 f86 (Ne.symm Mm.2.2.2.2.2.2.2.2.1)
  have f100 := OwnA.other W92 f87 (Ne.symm Mm.2.2.2.2.2.2.2.1)
  have f101 := OwnA.other W92 f88 Mm.2.2.2.2.2.2.2.2.2.2.2.2.1
  have f102 := OwnA.other W92 f89 Mm.2.2.2.2.2.2.2.2.2.2.2.1
  have f103 := OwnA.other W92 f90 Mm.2.2.2.2.2.2.2.2.2.2.2.2.2
  have N92 := Fr.snoc X92 N79 gc
  have sz92 : n0 ≤ h92.size := by rw [W92.size]; exact sz79
  show OwnG p e below s _ _ _ (T92.setTop (mkF m 243 _ []))
  refine own_by (fun _ K => XS.iloadN X92.here hx rfl (hb hby at_243) rfl K) ?_
  show OwnG p e below s _ _ _ (T92.setTop (mkF m 244 _ [(.int 4)]))
  refine own_by (fun _ K => XS.iconst X92.here hx rfl (hb hby at_244) K) ?_
  show OwnG p e below s _ _ _ (T92.setTop (mkF m 245 _ [(.int 2), (.int 4)]))
  refine own_by (fun _ K => XS.icmpNo X92.here hx rfl (hb hby at_245) rfl (tlt (by decide)).2.2.2 K) ?_
  show OwnG p e below s _ _ _ (T92.setTop (mkF m 248 _ []))
  refine own_by (fun _ K => XS.aload X92.here hx rfl (hb hby at_248) rfl rfl K) ?_
  show OwnG p e below s _ _ _ (T92.setTop (mkF m 250 _ [(.ref dd)]))
  refine own_by (fun _ K => XS.iconst X92.here hx rfl (hb hby at_250) K) ?_
  show OwnG p e below s _ _ _ (T92.setTop (mkF m 251 _ [(.int 2), (.ref dd)]))
  refine own_by (fun _ K => XS.aload X92.here hx rfl (hb hby at_251) rfl rfl K) ?_
  show OwnG p e below s _ _ _ (T92.setTop (mkF m 253 _ [(.ref ob), (.int 2), (.ref dd)]))
  refine own_by (fun _ K => XS.iconst X92.here hx rfl (hb hby at_253) K) ?_
  show OwnG p e below s _ _ _ (T92.setTop (mkF m 254 _ [(.int 2), (.ref ob), (.int 2), (.ref dd)]))
  obtain ⟨cq105, kq105, q105a, q105b, q105c⟩ := isOf hZ e92 f93
  obtain ⟨_, _, ⟨T105, L105, k105, n105⟩, -, X105, ⟨Lc105, hQ105, l105, y105, z105⟩, st105⟩ := X92.virtualBack hx (y := (⟨"com/example/etsinta/etsinta/search/Best", "document", "(I)I"⟩ : MethodName)) (z := (⟨"com/example/etsinta/etsinta/search/Best", "document", "(I)I"⟩ : MethodName)) hown (mvT hZ (own_w hw 51 rfl)) (mvT hZ (own_w hw 52 rfl)) (notFace_of_selects (args := #[]) (mvT hZ (own_w hw 54 rfl))) (mvT hZ (own_w hw 54 rfl)) (mvT hZ (own_w hw 53 rfl)) (by decide) (backOf (W := 2) (rm10 l Z a0 hw [] ob sa da pa (4 : Int32) fd fs fp (2 : Int32) 2 r2 h92 n0 sz92 ⟨f93, f94, f95, f96, f97, f98, f99, f100, f101⟩ ⟨by decide, rfl, by decide⟩ (by decide) t2.1) hZ (own_w hw 55 rfl) (own_w hw 5 rfl) (by decide) (by decide)) q105a q105c (g := (mkF m 254 #[.val (.int cnt), .val (.int sb), .val (.int pb), .val (.int 4), .val (.ref ss), .val (.ref pa), .val (.ref dd), .val (.ref cc), .val (.ref ob), .unset, .unset] [(.int 2), (.ref ob), (.int 2), (.ref dd)])) rfl (by rw [hml]; rfl) (Steps.refl _) (argsL := [(.int 2)]) (rest := [(.int 2), (.ref dd)]) (lenOf pd_9 rfl) rfl (by show 2 * 0 + _ ≤ _; exact Nat.le_of_eq rfl) (hb hby at_254) (fun _ _ => ⟨rfl, e92, (by decide : 0 + 1 + 1 + 1 + 1 + 1 + 2 + 0 ≤ _), (by decide : 0 + 4 + 4 + 4 + 4 + 5 + 32 + 0 ≤ _)⟩)
  dsimp only [Pt.U, Pt.locs, Pt.cells, Pt.slots] at X105 l105 y105 z105 st105 hQ105
  subst l105 y105 z105
  refine own_by (fun _ K => st105.trans K) ?_
  obtain ⟨rfl, N105q, hh105⟩ := hQ105
  have N105 := Fr.app N92 N105q
  have f106 := f93
  rw [← hh105] at f106
  have f107 := f94
  rw [← hh105] at f107
  have f108 := f95
  rw [← hh105] at f108
  have f109 := f96
  rw [← hh105] at f109
  have f110 := f97
  rw [← hh105] at f110
  have f111 := f98
  rw [← hh105] at f111
  have f112 := f99
  rw [← hh105] at f112
  have f113 := f100
  rw [← hh105] at f113
  have f114 := f101
  rw [← hh105] at f114
  have f115 := f102
  rw [← hh105] at f115
  have f116 := f103
  rw [← hh105] at f116
  have f117 := A92
  rw [← hh105] at f117
  have sz105 : n0 ≤ T105.heap.size := by rw [hh105]; exact sz92
  show OwnG p e below s _ _ _ (T105.setTop (mkF m 257 _ [(.int r2), (.int 2), (.ref dd)]))
  obtain ⟨T118, h118, X118, e118, W118, A118, st118⟩ := own_stI X105 hx hZ (rfl : T105.heap = T105.heap) f116 (j := (2 : Int32)) (i := 2) ⟨by decide, rfl, by decide⟩ (g := (mkF m 257 #[.val (.int cnt), .val (.int sb), .val (.int pb), .val (.int 4), .val (.ref ss), .val (.ref pa), .val (.ref dd), .val (.ref cc), .val (.ref ob), .unset, .unset] [(.int r2), (.int 2), (.ref dd)])) rfl rfl (hb hby at_257)
  refine own_by (fun _ K => st118 _ K) ?_
  have f119 := Exa.wr W118 f106
  have f120 := Fld.other W118 f107 (Or.inl (Ne.symm Mm.2.2.2.1))
  have f121 := Fld.other W118 f108 (Or.inl (Ne.symm Mm.2.2.2.1))
  have f122 := Fld.other W118 f109 (Or.inl (Ne.symm Mm.2.2.2.1))
  have f123 := Fld.other W118 f110 (Or.inl (Ne.symm Mm.2.2.2.1))
  have f124 := Fld.other W118 f111 (Or.inl (Ne.symm Mm.2.2.2.1))
  have f125 := OwnA.other W118 f112 (Ne.symm Mm.2.2.2.2.2.1)
  have f126 := OwnA.other W118 f113 (Ne.symm Mm.2.2.2.2.1)
  have f127 := OwnA.other W118 f114 Mm.2.2.2.2.2.2.2.2.2.2.1
  have f128 := OwnA.other W118 f115 Mm.2.2.2.2.2.2.2.2.2.1
  have f130 := OwnA.other W118 f117 (Ne.symm Mm.2.2.2.2.2.2.2.2.2.2.2.2.2)
  have N118 := Fr.snoc X118 N105 gd
  have sz118 : n0 ≤ h118.size := by rw [W118.size]; exact sz105
  show OwnG p e below s _ _ _ (T118.setTop (mkF m 258 _ []))
  refine own_by (fun _ K => XS.aload X118.here hx rfl (hb hby at_258) rfl rfl K) ?_
  show OwnG p e below s _ _ _ (T118.setTop (mkF m 260 _ [(.ref cc)]))
  refine own_by (fun _ K => XS.iconst X118.here hx rfl (hb hby at_260) K) ?_
  show OwnG p e below s _ _ _ (T118.setTop (mkF m 261 _ [(.int 2), (.ref cc)]))
  refine own_by (fun _ K => XS.aload X118.here hx rfl (hb hby at_261) rfl rfl K) ?_
  show OwnG p e below s _ _ _ (T118.setTop (mkF m 263 _ [(.ref ob), (.int 2), (.ref cc)]))
  refine own_by (fun _ K => XS.iconst X118.here hx rfl (hb hby at_263) K) ?_
  show OwnG p e below s _ _ _ (T118.setTop (mkF m 264 _ [(.int 2), (.ref ob), (.int 2), (.ref cc)]))
  obtain ⟨cq131, kq131, q131a, q131b, q131c⟩ := isOf hZ e118 f119
  obtain ⟨_, _, ⟨T131, L131, k131, n131⟩, -, X131, ⟨Lc131, hQ131, l131, y131, z131⟩, st131⟩ := X118.virtualBack hx (y := (⟨"com/example/etsinta/etsinta/search/Best", "score", "(I)D"⟩ : MethodName)) (z := (⟨"com/example/etsinta/etsinta/search/Best", "score", "(I)D"⟩ : MethodName)) hown (mvT hZ (own_w hw 64 rfl)) (mvT hZ (own_w hw 65 rfl)) (notFace_of_selects (args := #[]) (mvT hZ (own_w hw 67 rfl))) (mvT hZ (own_w hw 67 rfl)) (mvT hZ (own_w hw 66 rfl)) (by decide) (backOf (W := 2) (rm13 l Z a0 hw [] ob sa da pa (4 : Int32) fd fs fp (2 : Int32) 2 (FP.i2d (sv r2)) h118 n0 sz118 ⟨f119, f120, f121, f122, f123, f124, f125, f126, f127⟩ ⟨by decide, rfl, by decide⟩ (by decide) t2.2.1) hZ (own_w hw 68 rfl) (own_w hw 5 rfl) (by decide) (by decide)) q131a q131c (g := (mkF m 264 #[.val (.int cnt), .val (.int sb), .val (.int pb), .val (.int 4), .val (.ref ss), .val (.ref pa), .val (.ref dd), .val (.ref cc), .val (.ref ob), .unset, .unset] [(.int 2), (.ref ob), (.int 2), (.ref cc)])) rfl (by rw [hml]; rfl) (Steps.refl _) (argsL := [(.int 2)]) (rest := [(.int 2), (.ref cc)]) (lenOf pd_10 rfl) rfl (by show 2 * 0 + _ ≤ _; exact Nat.le_of_eq rfl) (hb hby at_264) (fun _ _ => ⟨rfl, e118, (by decide : 0 + 1 + 1 + 1 + 1 + 1 + 2 + 0 ≤ _), (by decide : 0 + 4 + 4 + 4 + 4 + 5 + 32 + 0 ≤ _)⟩)
  dsimp only [Pt.U, Pt.locs, Pt.cells, Pt.slots] at X131 l131 y131 z131 st131 hQ131
  subst l131 y131 z131
  refine own_by (fun _ K => st131.trans K) ?_
  obtain ⟨rfl, N131q, hh131⟩ := hQ131
  have N131 := Fr.app N118 N131q
  have f132 := f119
  rw [← hh131] at f132
  have f133 := f120
  rw [← hh131] at f133
  have f134 := f121
  rw [← hh131] at f134
  have f135 := f122
  rw [← hh131] at f135
  have f136 := f123
  rw [← hh131] at f136
  have f137 := f124
  rw [← hh131] at f137
  have f138 := f125
  rw [← hh131] at f138
  have f139 := f126
  rw [← hh131] at f139
  have f140 := f127
  rw [← hh131] at f140
  have f141 := f128
  rw [← hh131] at f141
  have f142 := A118
  rw [← hh131] at f142
  have f143 := f130
  rw [← hh131] at f143
  have sz131 : n0 ≤ T131.heap.size := by rw [hh131]; exact sz118
  show OwnG p e below s _ _ _ (T131.setTop (mkF m 267 _ [(.double (FP.i2d (sv r2))), (.int 2), (.ref cc)]))
  obtain ⟨T144, h144, X144, e144, W144, A144, st144⟩ := own_stD X131 hx hZ (rfl : T131.heap = T131.heap) f143 (j := (2 : Int32)) (i := 2) ⟨by decide, rfl, by decide⟩ (g := (mkF m 267 #[.val (.int cnt), .val (.int sb), .val (.int pb), .val (.int 4), .val (.ref ss), .val (.ref pa), .val (.ref dd), .val (.ref cc), .val (.ref ob), .unset, .unset] [(.double (FP.i2d (sv r2))), (.int 2), (.ref cc)])) rfl rfl (hb hby at_267)
  refine own_by (fun _ K => st144 _ K) ?_
  have f145 := Exa.wr W144 f132
  have f146 := Fld.other W144 f133 (Or.inl (Ne.symm Mm.2.2.2.2.2.2.1))
  have f147 := Fld.other W144 f134 (Or.inl (Ne.symm Mm.2.2.2.2.2.2.1))
  have f148 := Fld.other W144 f135 (Or.inl (Ne.symm Mm.2.2.2.2.2.2.1))
  have f149 := Fld.other W144 f136 (Or.inl (Ne.symm Mm.2.2.2.2.2.2.1))
  have f150 := Fld.other W144 f137 (Or.inl (Ne.symm Mm.2.2.2.2.2.2.1))
  have f151 := OwnA.other W144 f138 (Ne.symm Mm.2.2.2.2.2.2.2.2.1)
  have f152 := OwnA.other W144 f139 (Ne.symm Mm.2.2.2.2.2.2.2.1)
  have f153 := OwnA.other W144 f140 Mm.2.2.2.2.2.2.2.2.2.2.2.2.1
  have f154 := OwnA.other W144 f141 Mm.2.2.2.2.2.2.2.2.2.2.2.1
  have f155 := OwnA.other W144 f142 Mm.2.2.2.2.2.2.2.2.2.2.2.2.2
  have N144 := Fr.snoc X144 N131 gc
  have sz144 : n0 ≤ h144.size := by rw [W144.size]; exact sz131
  show OwnG p e below s _ _ _ (T144.setTop (mkF m 268 _ []))
  refine own_by (fun _ K => XS.iloadN X144.here hx rfl (hb hby at_268) rfl K) ?_
  show OwnG p e below s _ _ _ (T144.setTop (mkF m 269 _ [(.int 4)]))
  refine own_by (fun _ K => XS.iconst X144.here hx rfl (hb hby at_269) K) ?_
  show OwnG p e below s _ _ _ (T144.setTop (mkF m 270 _ [(.int 3), (.int 4)]))
  refine own_by (fun _ K => XS.icmpNo X144.here hx rfl (hb hby at_270) rfl (tlt (by decide)).2.2.2 K) ?_
  show OwnG p e below s _ _ _ (T144.setTop (mkF m 273 _ []))
  refine own_by (fun _ K => XS.aload X144.here hx rfl (hb hby at_273) rfl rfl K) ?_
  show OwnG p e below s _ _ _ (T144.setTop (mkF m 275 _ [(.ref dd)]))
  refine own_by (fun _ K => XS.iconst X144.here hx rfl (hb hby at_275) K) ?_
  show OwnG p e below s _ _ _ (T144.setTop (mkF m 276 _ [(.int 3), (.ref dd)]))
  refine own_by (fun _ K => XS.aload X144.here hx rfl (hb hby at_276) rfl rfl K) ?_
  show OwnG p e below s _ _ _ (T144.setTop (mkF m 278 _ [(.ref ob), (.int 3), (.ref dd)]))
  refine own_by (fun _ K => XS.iconst X144.here hx rfl (hb hby at_278) K) ?_
  show OwnG p e below s _ _ _ (T144.setTop (mkF m 279 _ [(.int 3), (.ref ob), (.int 3), (.ref dd)]))
  obtain ⟨cq157, kq157, q157a, q157b, q157c⟩ := isOf hZ e144 f145
  obtain ⟨_, _, ⟨T157, L157, k157, n157⟩, -, X157, ⟨Lc157, hQ157, l157, y157, z157⟩, st157⟩ := X144.virtualBack hx (y := (⟨"com/example/etsinta/etsinta/search/Best", "document", "(I)I"⟩ : MethodName)) (z := (⟨"com/example/etsinta/etsinta/search/Best", "document", "(I)I"⟩ : MethodName)) hown (mvT hZ (own_w hw 51 rfl)) (mvT hZ (own_w hw 52 rfl)) (notFace_of_selects (args := #[]) (mvT hZ (own_w hw 54 rfl))) (mvT hZ (own_w hw 54 rfl)) (mvT hZ (own_w hw 53 rfl)) (by decide) (backOf (W := 2) (rm10 l Z a0 hw [] ob sa da pa (4 : Int32) fd fs fp (3 : Int32) 3 r3 h144 n0 sz144 ⟨f145, f146, f147, f148, f149, f150, f151, f152, f153⟩ ⟨by decide, rfl, by decide⟩ (by decide) t3.1) hZ (own_w hw 55 rfl) (own_w hw 5 rfl) (by decide) (by decide)) q157a q157c (g := (mkF m 279 #[.val (.int cnt), .val (.int sb), .val (.int pb), .val (.int 4), .val (.ref ss), .val (.ref pa), .val (.ref dd), .val (.ref cc), .val (.ref ob), .unset, .unset] [(.int 3), (.ref ob), (.int 3), (.ref dd)])) rfl (by rw [hml]; rfl) (Steps.refl _) (argsL := [(.int 3)]) (rest := [(.int 3), (.ref dd)]) (lenOf pd_9 rfl) rfl (by show 2 * 0 + _ ≤ _; exact Nat.le_of_eq rfl) (hb hby at_279) (fun _ _ => ⟨rfl, e144, (by decide : 0 + 1 + 1 + 1 + 1 + 1 + 2 + 0 ≤ _), (by decide : 0 + 4 + 4 + 4 + 4 + 5 + 32 + 0 ≤ _)⟩)
  dsimp only [Pt.U, Pt.locs, Pt.cells, Pt.slots] at X157 l157 y157 z157 st157 hQ157
  subst l157 y157 z157
  refine own_by (fun _ K => st157.trans K) ?_
  obtain ⟨rfl, N157q, hh157⟩ := hQ157
  have N157 := Fr.app N144 N157q
  have f158 := f145
  rw [← hh157] at f158
  have f159 := f146
  rw [← hh157] at f159
  have f160 := f147
  rw [← hh157] at f160
  have f161 := f148
  rw [← hh157] at f161
  have f162 := f149
  rw [← hh157] at f162
  have f163 := f150
  rw [← hh157] at f163
  have f164 := f151
  rw [← hh157] at f164
  have f165 := f152
  rw [← hh157] at f165
  have f166 := f153
  rw [← hh157] at f166
  have f167 := f154
  rw [← hh157] at f167
  have f168 := f155
  rw [← hh157] at f168
  have f169 := A144
  rw [← hh157] at f169
  have sz157 : n0 ≤ T157.heap.size := by rw [hh157]; exact sz144
  show OwnG p e below s _ _ _ (T157.setTop (mkF m 282 _ [(.int r3), (.int 3), (.ref dd)]))
  obtain ⟨T170, h170, X170, e170, W170, A170, st170⟩ := own_stI X157 hx hZ (rfl : T157.heap = T157.heap) f168 (j := (3 : Int32)) (i := 3) ⟨by decide, rfl, by decide⟩ (g := (mkF m 282 #[.val (.int cnt), .val (.int sb), .val (.int pb), .val (.int 4), .val (.ref ss), .val (.ref pa), .val (.ref dd), .val (.ref cc), .val (.ref ob), .unset, .unset] [(.int r3), (.int 3), (.ref dd)])) rfl rfl (hb hby at_282)
  refine own_by (fun _ K => st170 _ K) ?_
  have f171 := Exa.wr W170 f158
  have f172 := Fld.other W170 f159 (Or.inl (Ne.symm Mm.2.2.2.1))
  have f173 := Fld.other W170 f160 (Or.inl (Ne.symm Mm.2.2.2.1))
  have f174 := Fld.other W170 f161 (Or.inl (Ne.symm Mm.2.2.2.1))
  have f175 := Fld.other W170 f162 (Or.inl (Ne.symm Mm.2.2.2.1))
  have f176 := Fld.other W170 f163 (Or.inl (Ne.symm Mm.2.2.2.1))
  have f177 := OwnA.other W170 f164 (Ne.symm Mm.2.2.2.2.2.1)
  have f178 := OwnA.other W170 f165 (Ne.symm Mm.2.2.2.2.1)
  have f179 := OwnA.other W170 f166 Mm.2.2.2.2.2.2.2.2.2.2.1
  have f180 := OwnA.other W170 f167 Mm.2.2.2.2.2.2.2.2.2.1
  have f182 := OwnA.other W170 f169 (Ne.symm Mm.2.2.2.2.2.2.2.2.2.2.2.2.2)
  have N170 := Fr.snoc X170 N157 gd
  have sz170 : n0 ≤ h170.size := by rw [W170.size]; exact sz157
  show OwnG p e below s _ _ _ (T170.setTop (mkF m 283 _ []))
  refine own_by (fun _ K => XS.aload X170.here hx rfl (hb hby at_283) rfl rfl K) ?_
  show OwnG p e below s _ _ _ (T170.setTop (mkF m 285 _ [(.ref cc)]))
  refine own_by (fun _ K => XS.iconst X170.here hx rfl (hb hby at_285) K) ?_
  show OwnG p e below s _ _ _ (T170.setTop (mkF m 286 _ [(.int 3), (.ref cc)]))
  refine own_by (fun _ K => XS.aload X170.here hx rfl (hb hby at_286) rfl rfl K) ?_
  show OwnG p e below s _ _ _ (T170.setTop (mkF m 288 _ [(.ref ob), (.int 3), (.ref cc)]))
  refine own_by (fun _ K => XS.iconst X170.here hx rfl (hb hby at_288) K) ?_
  show OwnG p e below s _ _ _ (T170.setTop (mkF m 289 _ [(.int 3), (.ref ob), (.int 3), (.ref cc)]))
  obtain ⟨cq183, kq183, q183a, q183b, q183c⟩ := isOf hZ e170 f171
  obtain ⟨_, _, ⟨T183, L183, k183, n183⟩, -, X183, ⟨Lc183, hQ183, l183, y183, z183⟩, st183⟩ := X170.virtualBack hx (y := (⟨"com/example/etsinta/etsinta/search/Best", "score", "(I)D"⟩ : MethodName)) (z := (⟨"com/example/etsinta/etsinta/search/Best", "score", "(I)D"⟩ : MethodName)) hown (mvT hZ (own_w hw 64 rfl)) (mvT hZ (own_w hw 65 rfl)) (notFace_of_selects (args := #[]) (mvT hZ (own_w hw 67 rfl))) (mvT hZ (own_w hw 67 rfl)) (mvT hZ (own_w hw 66 rfl)) (by decide) (backOf (W := 2) (rm13 l Z a0 hw [] ob sa da pa (4 : Int32) fd fs fp (3 : Int32) 3 (FP.i2d (sv r3)) h170 n0 sz170 ⟨f171, f172, f173, f174, f175, f176, f177, f178, f179⟩ ⟨by decide, rfl, by decide⟩ (by decide) t3.2.1) hZ (own_w hw 68 rfl) (own_w hw 5 rfl) (by decide) (by decide)) q183a q183c (g := (mkF m 289 #[.val (.int cnt), .val (.int sb), .val (.int pb), .val (.int 4), .val (.ref ss), .val (.ref pa), .val (.ref dd), .val (.ref cc), .val (.ref ob), .unset, .unset] [(.int 3), (.ref ob), (.int 3), (.ref cc)])) rfl (by rw [hml]; rfl) (Steps.refl _) (argsL := [(.int 3)]) (rest := [(.int 3), (.ref cc)]) (lenOf pd_10 rfl) rfl (by show 2 * 0 + _ ≤ _; exact Nat.le_of_eq rfl) (hb hby at_289) (fun _ _ => ⟨rfl, e170, (by decide : 0 + 1 + 1 + 1 + 1 + 1 + 2 + 0 ≤ _), (by decide : 0 + 4 + 4 + 4 + 4 + 5 + 32 + 0 ≤ _)⟩)
  dsimp only [Pt.U, Pt.locs, Pt.cells, Pt.slots] at X183 l183 y183 z183 st183 hQ183
  subst l183 y183 z183
  refine own_by (fun _ K => st183.trans K) ?_
  obtain ⟨rfl, N183q, hh183⟩ := hQ183
  have N183 := Fr.app N170 N183q
  have f184 := f171
  rw [← hh183] at f184
  have f185 := f172
  rw [← hh183] at f185
  have f186 := f173
  rw [← hh183] at f186
  have f187 := f174
  rw [← hh183] at f187
  have f188 := f175
  rw [← hh183] at f188
  have f189 := f176
  rw [← hh183] at f189
  have f190 := f177
  rw [← hh183] at f190
  have f191 := f178
  rw [← hh183] at f191
  have f192 := f179
  rw [← hh183] at f192
  have f193 := f180
  rw [← hh183] at f193
  have f194 := A170
  rw [← hh183] at f194
  have f195 := f182
  rw [← hh183] at f195
  have sz183 : n0 ≤ T183.heap.size := by rw [hh183]; exact sz170
  show OwnG p e below s _ _ _ (T183.setTop (mkF m 292 _ [(.double (FP.i2d (sv r3))), (.int 3), (.ref cc)]))
  obtain ⟨T196, h196, X196, e196, W196, A196, st196⟩ := own_stD X183 hx hZ (rfl : T183.heap = T183.heap) f195 (j := (3 : Int32)) (i := 3) ⟨by decide, rfl, by decide⟩ (g := (mkF m 292 #[.val (.int cnt), .val (.int sb), .val (.int pb), .val (.int 4), .val (.ref ss), .val (.ref pa), .val (.ref dd), .val (.ref cc), .val (.ref ob), .unset, .unset] [(.double (FP.i2d (sv r3))), (.int 3), (.ref cc)])) rfl rfl (hb hby at_292)
  refine own_by (fun _ K => st196 _ K) ?_
  have f197 := Exa.wr W196 f184
  have f198 := Fld.other W196 f185 (Or.inl (Ne.symm Mm.2.2.2.2.2.2.1))
  have f199 := Fld.other W196 f186 (Or.inl (Ne.symm Mm.2.2.2.2.2.2.1))
  have f200 := Fld.other W196 f187 (Or.inl (Ne.symm Mm.2.2.2.2.2.2.1))
  have f201 := Fld.other W196 f188 (Or.inl (Ne.symm Mm.2.2.2.2.2.2.1))
  have f202 := Fld.other W196 f189 (Or.inl (Ne.symm Mm.2.2.2.2.2.2.1))
  have f203 := OwnA.other W196 f190 (Ne.symm Mm.2.2.2.2.2.2.2.2.1)
  have f204 := OwnA.other W196 f191 (Ne.symm Mm.2.2.2.2.2.2.2.1)
  have f205 := OwnA.other W196 f192 Mm.2.2.2.2.2.2.2.2.2.2.2.2.1
  have f206 := OwnA.other W196 f193 Mm.2.2.2.2.2.2.2.2.2.2.2.1
  have f207 := OwnA.other W196 f194 Mm.2.2.2.2.2.2.2.2.2.2.2.2.2
  have N196 := Fr.snoc X196 N183 gc
  have sz196 : n0 ≤ h196.size := by rw [W196.size]; exact sz183
  show OwnG p e below s _ _ _ (T196.setTop (mkF m 293 _ []))
  exact own_e4 cnt sb pb 0 sv pl ob pa ss dd cc fp fss (ownSet (ownSet (ownSet (ownSet (fun _ => (defaultValue .int)) 0 (.int r0)) 1 (.int r1)) 2 (.int r2)) 3 (.int r3)) (ownSet (ownSet (ownSet (ownSet (fun _ => (defaultValue .double)) 0 (.double (FP.i2d (sv r0)))) 1 (.double (FP.i2d (sv r1)))) 2 (.double (FP.i2d (sv r2)))) 3 (.double (FP.i2d (sv r3)))) r0 r1 r2 r3 X196 hx hby hml hret hlk hown hnm hZ hw e196 N196 sz196 f205 f206 f207 A196 hP hss t0.2.2 t1.2.2 t2.2.2 t3.2.2 ((own_sn (by decide)).trans ((own_sn (by decide)).trans ((own_sn (by decide)).trans own_sh))) ((own_sn (by decide)).trans ((own_sn (by decide)).trans own_sh)) ((own_sn (by decide)).trans own_sh) own_sh ((own_sn (by decide)).trans ((own_sn (by decide)).trans ((own_sn (by decide)).trans own_sh))) ((own_sn (by decide)).trans ((own_sn (by decide)).trans own_sh)) ((own_sn (by decide)).trans own_sh) own_sh hb0 hb1 hb2 hb3 ho0 ho1 ho2 hm
set_option maxRecDepth 65536 in
set_option maxHeartbeats 40000000 in
theorem own_n4 {p : Program} {l : Launch} {e : Env} {s : State} {m : MethodId} {args : Array Value} {below : List Frame} {meth : Method} {c : Code} {T0 : State} {locs : List Loc} {Z : State} {a0 : Array Value} {h0 : Heap} {n0 : Nat} (cnt sb pb : Int32) (sv pl : Int32 → Int32) (ob sa da pa ss dd cc : Addr) (fd fs fp fss : Nat → Value) (X0 : Stand p l e room_1 s m args below meth c T0 locs (0 + 1 + 1 + 1 + 1 + 1 + 2) (0 + 4 + 4 + 4 + 4 + 5 + 32)) (hx : p.tables.exec = Jvm.exec) (hby : c.code = code) (hml : c.maxLocals = 11) (hret : meth.sig.returnType = some .boolean) (hlk : meth.locks = false) (hown : s.vm.findClass "com/example/etsinta/etsinta/search/BestRankPinLaw" = some m.cls) (hnm : meth.name = "law") (hZ : Z.Warmed39 s.vm) (hw : ∀ d ∈ tables_1, d.before a0 Z = true) (e0 : T0.heap = h0) (N0 : Fr n0 locs) (Z0 : n0 ≤ h0.size) (Sb : own_S Z h0 ob sa da pa (0 : Int32) fd fs fp) (Nn : own_N n0 ob sa da pa) (Mm : own_M ob sa da pa ss dd cc) (hP : own_P pl fp) (hss : ∀ d, own_ok d → fss d.toNatClampNeg = .double (FP.i2d (sv d))) (As : OwnA Z h0 ss .double 4 fss) (Ad : OwnA Z h0 dd .int 4 (fun _ => (defaultValue .int))) (Ac : OwnA Z h0 cc .double 4 (fun _ => (defaultValue .double))) (gd : n0 ≤ dd) (gc : n0 ≤ cc) :
    OwnG p e below s (fun v h L => v = some (.int 1) ∧ Fr n0 L) room_1.cells room_1.slots (T0.setTop (mkF m 119 #[.val (.int cnt), .val (.int sb), .val (.int pb), .val (.int 4), .val (.ref ss), .val (.ref pa), .val (.ref dd), .val (.ref cc), .val (.ref ob), .unset, .unset] [])) := by
  show OwnG p e below s _ _ _ (T0.setTop (mkF m 119 #[.val (.int cnt), .val (.int sb), .val (.int pb), .val (.int 4), .val (.ref ss), .val (.ref pa), .val (.ref dd), .val (.ref cc), .val (.ref ob), .unset, .unset] []))
  refine own_by (fun _ K => XS.iloadN X0.here hx rfl (hb hby at_119) rfl K) ?_
  show OwnG p e below s _ _ _ (T0.setTop (mkF m 120 _ [(.int 4)]))
  refine own_by (fun _ K => XS.ifNo X0.here hx rfl (hb hby at_120) rfl ((if0 _ _).trans (tlt (by decide)).2.2.2) K) ?_
  show OwnG p e below s _ _ _ (T0.setTop (mkF m 123 _ []))
  refine own_by (fun _ K => XS.aload X0.here hx rfl (hb hby at_123) rfl rfl K) ?_
  show OwnG p e below s _ _ _ (T0.setTop (mkF m 125 _ [(.ref ob)]))
  refine own_by (fun _ K => XS.iconst X0.here hx rfl (hb hby at_125) K) ?_
  show OwnG p e below s _ _ _ (T0.setTop (mkF m 126 _ [(.int 0), (.ref ob)]))
  refine own_by (fun _ K => XS.aload X0.here hx rfl (hb hby at_126) rfl rfl K) ?_
  show OwnG p e below s _ _ _ (T0.setTop (mkF m 128 _ [(.ref ss), (.int 0), (.ref ob)]))
  refine own_by (fun _ K => XS.iconst X0.here hx rfl (hb hby at_128) K) ?_
  show OwnG p e below s _ _ _ (T0.setTop (mkF m 129 _ [(.int 0), (.ref ss), (.int 0), (.ref ob)]))
  refine own_by (fun _ K => own_ldD X0 hx hZ e0 As (j := (0 : Int32)) (i := 0) ⟨by decide, rfl, by decide⟩ (v := (.double (FP.i2d (sv (0 : Int32))))) (hss (0 : Int32) (Or.inl rfl)) (g := (mkF m 129 #[.val (.int cnt), .val (.int sb), .val (.int pb), .val (.int 4), .val (.ref ss), .val (.ref pa), .val (.ref dd), .val (.ref cc), .val (.ref ob), .unset, .unset] [(.int 0), (.ref ss), (.int 0), (.ref ob)])) rfl rfl (hb hby at_129) _ K) ?_
  show OwnG p e below s _ _ _ (T0.setTop (mkF m 130 _ [(.double (FP.i2d (sv (0 : Int32)))), (.int 0), (.ref ob)]))
  obtain ⟨cq1, kq1, q1a, q1b, q1c⟩ := isOf hZ e0 Sb.1
  obtain ⟨_, _, ⟨T1, L1, k1, n1⟩, -, X1, ⟨Lc1, hQ1, l1, y1, z1⟩, st1⟩ := X0.virtualBack hx (y := (⟨"com/example/etsinta/etsinta/search/Best", "offer", "(ID)V"⟩ : MethodName)) (z := (⟨"com/example/etsinta/etsinta/search/Best", "offer", "(ID)V"⟩ : MethodName)) hown (mvT hZ (own_w hw 42 rfl)) (mvT hZ (own_w hw 43 rfl)) (notFace_of_selects (args := #[]) (mvT hZ (own_w hw 45 rfl))) (mvT hZ (own_w hw 45 rfl)) (mvT hZ (own_w hw 44 rfl)) (by decide) (backOf (W := 0) (rm8o0 l Z a0 hw [] sv pl ob sa da pa fd fs fp (0 : Int32) h0 n0 Z0 ⟨Sb.1, Sb.2.1, Sb.2.2.1, Sb.2.2.2.1, Sb.2.2.2.2.1, Sb.2.2.2.2.2.1, Sb.2.2.2.2.2.2.1, Sb.2.2.2.2.2.2.2.1, Sb.2.2.2.2.2.2.2.2⟩ Nn hP  (Or.inl rfl)) hZ (own_w hw 46 rfl) (own_w hw 5 rfl) (by decide) (by decide)) q1a q1c (g := (mkF m 130 #[.val (.int cnt), .val (.int sb), .val (.int pb), .val (.int 4), .val (.ref ss), .val (.ref pa), .val (.ref dd), .val (.ref cc), .val (.ref ob), .unset, .unset] [(.double (FP.i2d (sv (0 : Int32)))), (.int 0), (.ref ob)])) rfl (by rw [hml]; rfl) (Steps.refl _) (argsL := [(.int 0), (.double (FP.i2d (sv (0 : Int32))))]) (rest := []) (lenOf pd_2 rfl) rfl (by show 2 * 0 + _ ≤ _; exact Nat.le_of_eq rfl) (hb hby at_130) (fun _ _ => ⟨rfl, e0, (by decide : 0 + 1 + 1 + 1 + 1 + 1 + 2 + 0 ≤ _), (by decide : 0 + 4 + 4 + 4 + 4 + 5 + 32 + 0 ≤ _)⟩)
  dsimp only [Pt.U, Pt.locs, Pt.cells, Pt.slots] at X1 l1 y1 z1 st1 hQ1
  subst l1 y1 z1
  refine own_by (fun _ K => st1.trans K) ?_
  obtain ⟨rfl, N1q, K1, fd1, fs1, r1_0, S1, t1_0, hU1⟩ := hQ1
  have N1 := Fr.app N0 N1q
  have sz1 : n0 ≤ T1.heap.size := Nat.le_trans Z0 K1.1
  have f2 := Exa.keep Sb.1 K1
  have f3 := OwnA.keep As K1 (ninS Mm.1 (ninS Mm.2.1 (ninS Mm.2.2.1 nin0)))
  have f4 := OwnA.keep Ad K1 (ninS Mm.2.2.2.1 (ninS Mm.2.2.2.2.1 (ninS Mm.2.2.2.2.2.1 nin0)))
  have f5 := OwnA.keep Ac K1 (ninS Mm.2.2.2.2.2.2.1 (ninS Mm.2.2.2.2.2.2.2.1 (ninS Mm.2.2.2.2.2.2.2.2.1 nin0)))
  show OwnG p e below s _ _ _ (T1.setTop (mkF m 133 _ []))
  refine own_by (fun _ K => XS.iloadN X1.here hx rfl (hb hby at_133) rfl K) ?_
  show OwnG p e below s _ _ _ (T1.setTop (mkF m 134 _ [(.int 4)]))
  refine own_by (fun _ K => XS.iconst X1.here hx rfl (hb hby at_134) K) ?_
  show OwnG p e below s _ _ _ (T1.setTop (mkF m 135 _ [(.int 1), (.int 4)]))
  refine own_by (fun _ K => XS.icmpNo X1.here hx rfl (hb hby at_135) rfl (tlt (by decide)).2.2.2 K) ?_
  show OwnG p e below s _ _ _ (T1.setTop (mkF m 138 _ []))
  refine own_by (fun _ K => XS.aload X1.here hx rfl (hb hby at_138) rfl rfl K) ?_
  show OwnG p e below s _ _ _ (T1.setTop (mkF m 140 _ [(.ref ob)]))
  refine own_by (fun _ K => XS.iconst X1.here hx rfl (hb hby at_140) K) ?_
  show OwnG p e below s _ _ _ (T1.setTop (mkF m 141 _ [(.int 1), (.ref ob)]))
  refine own_by (fun _ K => XS.aload X1.here hx rfl (hb hby at_141) rfl rfl K) ?_
  show OwnG p e below s _ _ _ (T1.setTop (mkF m 143 _ [(.ref ss), (.int 1), (.ref ob)]))
  refine own_by (fun _ K => XS.iconst X1.here hx rfl (hb hby at_143) K) ?_
  show OwnG p e below s _ _ _ (T1.setTop (mkF m 144 _ [(.int 1), (.ref ss), (.int 1), (.ref ob)]))
  refine own_by (fun _ K => own_ldD X1 hx hZ (rfl : T1.heap = T1.heap) f3 (j := (1 : Int32)) (i := 1) ⟨by decide, rfl, by decide⟩ (v := (.double (FP.i2d (sv (1 : Int32))))) (hss (1 : Int32) (Or.inr (Or.inl rfl))) (g := (mkF m 144 #[.val (.int cnt), .val (.int sb), .val (.int pb), .val (.int 4), .val (.ref ss), .val (.ref pa), .val (.ref dd), .val (.ref cc), .val (.ref ob), .unset, .unset] [(.int 1), (.ref ss), (.int 1), (.ref ob)])) rfl rfl (hb hby at_144) _ K) ?_
  show OwnG p e below s _ _ _ (T1.setTop (mkF m 145 _ [(.double (FP.i2d (sv (1 : Int32)))), (.int 1), (.ref ob)]))
  obtain ⟨cq6, kq6, q6a, q6b, q6c⟩ := isOf hZ (rfl : T1.heap = T1.heap) S1.1
  obtain ⟨_, _, ⟨T6, L6, k6, n6⟩, -, X6, ⟨Lc6, hQ6, l6, y6, z6⟩, st6⟩ := X1.virtualBack hx (y := (⟨"com/example/etsinta/etsinta/search/Best", "offer", "(ID)V"⟩ : MethodName)) (z := (⟨"com/example/etsinta/etsinta/search/Best", "offer", "(ID)V"⟩ : MethodName)) hown (mvT hZ (own_w hw 42 rfl)) (mvT hZ (own_w hw 43 rfl)) (notFace_of_selects (args := #[]) (mvT hZ (own_w hw 45 rfl))) (mvT hZ (own_w hw 45 rfl)) (mvT hZ (own_w hw 44 rfl)) (by decide) (backOf (W := 0) (rm8o1 l Z a0 hw [] sv pl ob sa da pa fd1 fs1 fp r1_0 (1 : Int32) T1.heap n0 sz1 ⟨S1.1, S1.2.1, S1.2.2.1, S1.2.2.2.1, S1.2.2.2.2.1, S1.2.2.2.2.2.1, S1.2.2.2.2.2.2.1, S1.2.2.2.2.2.2.2.1, S1.2.2.2.2.2.2.2.2⟩ Nn hP ⟨t1_0.1, t1_0.2.1, t1_0.2.2⟩ (Or.inr (Or.inl rfl))) hZ (own_w hw 46 rfl) (own_w hw 5 rfl) (by decide) (by decide)) q6a q6c (g := (mkF m 145 #[.val (.int cnt), .val (.int sb), .val (.int pb), .val (.int 4), .val (.ref ss), .val (.ref pa), .val (.ref dd), .val (.ref cc), .val (.ref ob), .unset, .unset] [(.double (FP.i2d (sv (1 : Int32)))), (.int 1), (.ref ob)])) rfl (by rw [hml]; rfl) (Steps.refl _) (argsL := [(.int 1), (.double (FP.i2d (sv (1 : Int32))))]) (rest := []) (lenOf pd_2 rfl) rfl (by show 2 * 0 + _ ≤ _; exact Nat.le_of_eq rfl) (hb hby at_145) (fun _ _ => ⟨rfl, (rfl : T1.heap = T1.heap), (by decide : 0 + 1 + 1 + 1 + 1 + 1 + 2 + 0 ≤ _), (by decide : 0 + 4 + 4 + 4 + 4 + 5 + 32 + 0 ≤ _)⟩)
  dsimp only [Pt.U, Pt.locs, Pt.cells, Pt.slots] at X6 l6 y6 z6 st6 hQ6
  subst l6 y6 z6
  refine own_by (fun _ K => st6.trans K) ?_
  obtain ⟨rfl, N6q, K6, fd6, fs6, r6_0, r6_1, S6, t6_0, t6_1, hU6⟩ := hQ6
  have N6 := Fr.app N1 N6q
  have sz6 : n0 ≤ T6.heap.size := Nat.le_trans sz1 K6.1
  have f7 := Exa.keep S1.1 K6
  have f8 := OwnA.keep f3 K6 (ninS Mm.1 (ninS Mm.2.1 (ninS Mm.2.2.1 nin0)))
  have f9 := OwnA.keep f4 K6 (ninS Mm.2.2.2.1 (ninS Mm.2.2.2.2.1 (ninS Mm.2.2.2.2.2.1 nin0)))
  have f10 := OwnA.keep f5 K6 (ninS Mm.2.2.2.2.2.2.1 (ninS Mm.2.2.2.2.2.2.2.1 (ninS Mm.2.2.2.2.2.2.2.2.1 nin0)))
  show OwnG p e below s _ _ _ (T6.setTop (mkF m 148 _ []))
  refine own_by (fun _ K => XS.iloadN X6.here hx rfl (hb hby at_148) rfl K) ?_
  show OwnG p e below s _ _ _ (T6.setTop (mkF m 149 _ [(.int 4)]))
  refine own_by (fun _ K => XS.iconst X6.here hx rfl (hb hby at_149) K) ?_
  show OwnG p e below s _ _ _ (T6.setTop (mkF m 150 _ [(.int 2), (.int 4)]))
  refine own_by (fun _ K => XS.icmpNo X6.here hx rfl (hb hby at_150) rfl (tlt (by decide)).2.2.2 K) ?_
  show OwnG p e below s _ _ _ (T6.setTop (mkF m 153 _ []))
  refine own_by (fun _ K => XS.aload X6.here hx rfl (hb hby at_153) rfl rfl K) ?_
  show OwnG p e below s _ _ _ (T6.setTop (mkF m 155 _ [(.ref ob)]))
  refine own_by (fun _ K => XS.iconst X6.here hx rfl (hb hby at_155) K) ?_
  show OwnG p e below s _ _ _ (T6.setTop (mkF m 156 _ [(.int 2), (.ref ob)]))
  refine own_by (fun _ K => XS.aload X6.here hx rfl (hb hby at_156) rfl rfl K) ?_
  show OwnG p e below s _ _ _ (T6.setTop (mkF m 158 _ [(.ref ss), (.int 2), (.ref ob)]))
  refine own_by (fun _ K => XS.iconst X6.here hx rfl (hb hby at_158) K) ?_
  show OwnG p e below s _ _ _ (T6.setTop (mkF m 159 _ [(.int 2), (.ref ss), (.int 2), (.ref ob)]))
  refine own_by (fun _ K => own_ldD X6 hx hZ (rfl : T6.heap = T6.heap) f8 (j := (2 : Int32)) (i := 2) ⟨by decide, rfl, by decide⟩ (v := (.double (FP.i2d (sv (2 : Int32))))) (hss (2 : Int32) (Or.inr (Or.inr (Or.inl rfl)))) (g := (mkF m 159 #[.val (.int cnt), .val (.int sb), .val (.int pb), .val (.int 4), .val (.ref ss), .val (.ref pa), .val (.ref dd), .val (.ref cc), .val (.ref ob), .unset, .unset] [(.int 2), (.ref ss), (.int 2), (.ref ob)])) rfl rfl (hb hby at_159) _ K) ?_
  show OwnG p e below s _ _ _ (T6.setTop (mkF m 160 _ [(.double (FP.i2d (sv (2 : Int32)))), (.int 2), (.ref ob)]))
  obtain ⟨cq11, kq11, q11a, q11b, q11c⟩ := isOf hZ (rfl : T6.heap = T6.heap) S6.1
  obtain ⟨_, _, ⟨T11, L11, k11, n11⟩, -, X11, ⟨Lc11, hQ11, l11, y11, z11⟩, st11⟩ := X6.virtualBack hx (y := (⟨"com/example/etsinta/etsinta/search/Best", "offer", "(ID)V"⟩ : MethodName)) (z := (⟨"com/example/etsinta/etsinta/search/Best", "offer", "(ID)V"⟩ : MethodName)) hown (mvT hZ (own_w hw 42 rfl)) (mvT hZ (own_w hw 43 rfl)) (notFace_of_selects (args := #[]) (mvT hZ (own_w hw 45 rfl))) (mvT hZ (own_w hw 45 rfl)) (mvT hZ (own_w hw 44 rfl)) (by decide) (backOf (W := 0) (rm8o2 l Z a0 hw [] sv pl ob sa da pa fd6 fs6 fp r6_0 r6_1 (2 : Int32) T6.heap n0 sz6 ⟨S6.1, S6.2.1, S6.2.2.1, S6.2.2.2.1, S6.2.2.2.2.1, S6.2.2.2.2.2.1, S6.2.2.2.2.2.2.1, S6.2.2.2.2.2.2.2.1, S6.2.2.2.2.2.2.2.2⟩ Nn hP ⟨t6_0.1, t6_0.2.1, t6_0.2.2⟩ ⟨t6_1.1, t6_1.2.1, t6_1.2.2⟩ (Or.inr (Or.inr (Or.inl rfl)))) hZ (own_w hw 46 rfl) (own_w hw 5 rfl) (by decide) (by decide)) q11a q11c (g := (mkF m 160 #[.val (.int cnt), .val (.int sb), .val (.int pb), .val (.int 4), .val (.ref ss), .val (.ref pa), .val (.ref dd), .val (.ref cc), .val (.ref ob), .unset, .unset] [(.double (FP.i2d (sv (2 : Int32)))), (.int 2), (.ref ob)])) rfl (by rw [hml]; rfl) (Steps.refl _) (argsL := [(.int 2), (.double (FP.i2d (sv (2 : Int32))))]) (rest := []) (lenOf pd_2 rfl) rfl (by show 2 * 0 + _ ≤ _; exact Nat.le_of_eq rfl) (hb hby at_160) (fun _ _ => ⟨rfl, (rfl : T6.heap = T6.heap), (by decide : 0 + 1 + 1 + 1 + 1 + 1 + 2 + 0 ≤ _), (by decide : 0 + 4 + 4 + 4 + 4 + 5 + 32 + 0 ≤ _)⟩)
  dsimp only [Pt.U, Pt.locs, Pt.cells, Pt.slots] at X11 l11 y11 z11 st11 hQ11
  subst l11 y11 z11
  refine own_by (fun _ K => st11.trans K) ?_
  obtain ⟨rfl, N11q, K11, fd11, fs11, r11_0, r11_1, r11_2, S11, t11_0, t11_1, t11_2, hU11⟩ := hQ11
  have N11 := Fr.app N6 N11q
  have sz11 : n0 ≤ T11.heap.size := Nat.le_trans sz6 K11.1
  have f12 := Exa.keep S6.1 K11
  have f13 := OwnA.keep f8 K11 (ninS Mm.1 (ninS Mm.2.1 (ninS Mm.2.2.1 nin0)))
  have f14 := OwnA.keep f9 K11 (ninS Mm.2.2.2.1 (ninS Mm.2.2.2.2.1 (ninS Mm.2.2.2.2.2.1 nin0)))
  have f15 := OwnA.keep f10 K11 (ninS Mm.2.2.2.2.2.2.1 (ninS Mm.2.2.2.2.2.2.2.1 (ninS Mm.2.2.2.2.2.2.2.2.1 nin0)))
  show OwnG p e below s _ _ _ (T11.setTop (mkF m 163 _ []))
  refine own_by (fun _ K => XS.iloadN X11.here hx rfl (hb hby at_163) rfl K) ?_
  show OwnG p e below s _ _ _ (T11.setTop (mkF m 164 _ [(.int 4)]))
  refine own_by (fun _ K => XS.iconst X11.here hx rfl (hb hby at_164) K) ?_
  show OwnG p e below s _ _ _ (T11.setTop (mkF m 165 _ [(.int 3), (.int 4)]))
  refine own_by (fun _ K => XS.icmpNo X11.here hx rfl (hb hby at_165) rfl (tlt (by decide)).2.2.2 K) ?_
  show OwnG p e below s _ _ _ (T11.setTop (mkF m 168 _ []))
  refine own_by (fun _ K => XS.aload X11.here hx rfl (hb hby at_168) rfl rfl K) ?_
  show OwnG p e below s _ _ _ (T11.setTop (mkF m 170 _ [(.ref ob)]))
  refine own_by (fun _ K => XS.iconst X11.here hx rfl (hb hby at_170) K) ?_
  show OwnG p e below s _ _ _ (T11.setTop (mkF m 171 _ [(.int 3), (.ref ob)]))
  refine own_by (fun _ K => XS.aload X11.here hx rfl (hb hby at_171) rfl rfl K) ?_
  show OwnG p e below s _ _ _ (T11.setTop (mkF m 173 _ [(.ref ss), (.int 3), (.ref ob)]))
  refine own_by (fun _ K => XS.iconst X11.here hx rfl (hb hby at_173) K) ?_
  show OwnG p e below s _ _ _ (T11.setTop (mkF m 174 _ [(.int 3), (.ref ss), (.int 3), (.ref ob)]))
  refine own_by (fun _ K => own_ldD X11 hx hZ (rfl : T11.heap = T11.heap) f13 (j := (3 : Int32)) (i := 3) ⟨by decide, rfl, by decide⟩ (v := (.double (FP.i2d (sv (3 : Int32))))) (hss (3 : Int32) (Or.inr (Or.inr (Or.inr rfl)))) (g := (mkF m 174 #[.val (.int cnt), .val (.int sb), .val (.int pb), .val (.int 4), .val (.ref ss), .val (.ref pa), .val (.ref dd), .val (.ref cc), .val (.ref ob), .unset, .unset] [(.int 3), (.ref ss), (.int 3), (.ref ob)])) rfl rfl (hb hby at_174) _ K) ?_
  show OwnG p e below s _ _ _ (T11.setTop (mkF m 175 _ [(.double (FP.i2d (sv (3 : Int32)))), (.int 3), (.ref ob)]))
  obtain ⟨cq16, kq16, q16a, q16b, q16c⟩ := isOf hZ (rfl : T11.heap = T11.heap) S11.1
  obtain ⟨_, _, ⟨T16, L16, k16, n16⟩, -, X16, ⟨Lc16, hQ16, l16, y16, z16⟩, st16⟩ := X11.virtualBack hx (y := (⟨"com/example/etsinta/etsinta/search/Best", "offer", "(ID)V"⟩ : MethodName)) (z := (⟨"com/example/etsinta/etsinta/search/Best", "offer", "(ID)V"⟩ : MethodName)) hown (mvT hZ (own_w hw 42 rfl)) (mvT hZ (own_w hw 43 rfl)) (notFace_of_selects (args := #[]) (mvT hZ (own_w hw 45 rfl))) (mvT hZ (own_w hw 45 rfl)) (mvT hZ (own_w hw 44 rfl)) (by decide) (backOf (W := 0) (rm8o3 l Z a0 hw [] sv pl ob sa da pa fd11 fs11 fp r11_0 r11_1 r11_2 (3 : Int32) T11.heap n0 sz11 ⟨S11.1, S11.2.1, S11.2.2.1, S11.2.2.2.1, S11.2.2.2.2.1, S11.2.2.2.2.2.1, S11.2.2.2.2.2.2.1, S11.2.2.2.2.2.2.2.1, S11.2.2.2.2.2.2.2.2⟩ Nn hP ⟨t11_0.1, t11_0.2.1, t11_0.2.2⟩ ⟨t11_1.1, t11_1.2.1, t11_1.2.2⟩ ⟨t11_2.1, t11_2.2.1, t11_2.2.2⟩ (Or.inr (Or.inr (Or.inr rfl)))) hZ (own_w hw 46 rfl) (own_w hw 5 rfl) (by decide) (by decide)) q16a q16c (g := (mkF m 175 #[.val (.int cnt), .val (.int sb), .val (.int pb), .val (.int 4), .val (.ref ss), .val (.ref pa), .val (.ref dd), .val (.ref cc), .val (.ref ob), .unset, .unset] [(.double (FP.i2d (sv (3 : Int32)))), (.int 3), (.ref ob)])) rfl (by rw [hml]; rfl) (Steps.refl _) (argsL := [(.int 3), (.double (FP.i2d (sv (3 : Int32))))]) (rest := []) (lenOf pd_2 rfl) rfl (by show 2 * 0 + _ ≤ _; exact Nat.le_of_eq rfl) (hb hby at_175) (fun _ _ => ⟨rfl, (rfl : T11.heap = T11.heap), (by decide : 0 + 1 + 1 + 1 + 1 + 1 + 2 + 0 ≤ _), (by decide : 0 + 4 + 4 + 4 + 4 + 5 + 32 + 0 ≤ _)⟩)
  dsimp only [Pt.U, Pt.locs, Pt.cells, Pt.slots] at X16 l16 y16 z16 st16 hQ16
  subst l16 y16 z16
  refine own_by (fun _ K => st16.trans K) ?_
  obtain ⟨rfl, N16q, K16, fd16, fs16, r16_0, r16_1, r16_2, r16_3, S16, t16_0, t16_1, t16_2, t16_3, hU16⟩ := hQ16
  have N16 := Fr.app N11 N16q
  have sz16 : n0 ≤ T16.heap.size := Nat.le_trans sz11 K16.1
  have f17 := Exa.keep S11.1 K16
  have f18 := OwnA.keep f13 K16 (ninS Mm.1 (ninS Mm.2.1 (ninS Mm.2.2.1 nin0)))
  have f19 := OwnA.keep f14 K16 (ninS Mm.2.2.2.1 (ninS Mm.2.2.2.2.1 (ninS Mm.2.2.2.2.2.1 nin0)))
  have f20 := OwnA.keep f15 K16 (ninS Mm.2.2.2.2.2.2.1 (ninS Mm.2.2.2.2.2.2.2.1 (ninS Mm.2.2.2.2.2.2.2.2.1 nin0)))
  show OwnG p e below s _ _ _ (T16.setTop (mkF m 178 _ []))
  refine own_by (fun _ K => XS.aload X16.here hx rfl (hb hby at_178) rfl rfl K) ?_
  show OwnG p e below s _ _ _ (T16.setTop (mkF m 180 _ [(.ref ob)]))
  obtain ⟨cq21, kq21, q21a, q21b, q21c⟩ := isOf hZ (rfl : T16.heap = T16.heap) S16.1
  obtain ⟨_, _, ⟨T21, L21, k21, n21⟩, -, X21, ⟨Lc21, hQ21, l21, y21, z21⟩, st21⟩ := X16.virtualBack hx (y := (⟨"com/example/etsinta/etsinta/search/Best", "rank", "()V"⟩ : MethodName)) (z := (⟨"com/example/etsinta/etsinta/search/Best", "rank", "()V"⟩ : MethodName)) hown (mvT hZ (own_w hw 20 rfl)) (mvT hZ (own_w hw 21 rfl)) (notFace_of_selects (args := #[]) (mvT hZ (own_w hw 23 rfl))) (mvT hZ (own_w hw 23 rfl)) (mvT hZ (own_w hw 22 rfl)) (by decide) (backOf (W := 0) (rm3k4 l Z a0 hw [] sv pl ob sa da pa fd16 fs16 fp r16_0 r16_1 r16_2 r16_3 T16.heap n0 sz16 ⟨S16.1, S16.2.1, S16.2.2.1, S16.2.2.2.1, S16.2.2.2.2.1, S16.2.2.2.2.2.1, S16.2.2.2.2.2.2.1, S16.2.2.2.2.2.2.2.1, S16.2.2.2.2.2.2.2.2⟩ Nn hP ⟨t16_0.1, t16_0.2.1, t16_0.2.2⟩ ⟨t16_1.1, t16_1.2.1, t16_1.2.2⟩ ⟨t16_2.1, t16_2.2.1, t16_2.2.2⟩ ⟨t16_3.1, t16_3.2.1, t16_3.2.2⟩) hZ (own_w hw 24 rfl) (own_w hw 5 rfl) (by decide) (by decide)) q21a q21c (g := (mkF m 180 #[.val (.int cnt), .val (.int sb), .val (.int pb), .val (.int 4), .val (.ref ss), .val (.ref pa), .val (.ref dd), .val (.ref cc), .val (.ref ob), .unset, .unset] [(.ref ob)])) rfl (by rw [hml]; rfl) (Steps.refl _) (argsL := []) (rest := []) (lenOf pd_6 rfl) rfl (by show 2 * 0 + _ ≤ _; exact Nat.le_of_eq rfl) (hb hby at_180) (fun _ _ => ⟨rfl, (rfl : T16.heap = T16.heap), (by decide : 0 + 1 + 1 + 1 + 1 + 1 + 2 + 0 ≤ _), (by decide : 0 + 4 + 4 + 4 + 4 + 5 + 32 + 0 ≤ _)⟩)
  dsimp only [Pt.U, Pt.locs, Pt.cells, Pt.slots] at X21 l21 y21 z21 st21 hQ21
  subst l21 y21 z21
  refine own_by (fun _ K => st21.trans K) ?_
  obtain ⟨rfl, N21q, K21, fd21, fs21, r21_0, r21_1, r21_2, r21_3, S21, t21_0, t21_1, t21_2, t21_3, hR21⟩ := hQ21
  have N21 := Fr.app N16 N21q
  have sz21 : n0 ≤ T21.heap.size := Nat.le_trans sz16 K21.1
  have f22 := Exa.keep S16.1 K21
  have f23 := OwnA.keep f18 K21 (ninS Mm.1 (ninS Mm.2.1 (ninS Mm.2.2.1 nin0)))
  have f24 := OwnA.keep f19 K21 (ninS Mm.2.2.2.1 (ninS Mm.2.2.2.2.1 (ninS Mm.2.2.2.2.2.1 nin0)))
  have f25 := OwnA.keep f20 K21 (ninS Mm.2.2.2.2.2.2.1 (ninS Mm.2.2.2.2.2.2.2.1 (ninS Mm.2.2.2.2.2.2.2.2.1 nin0)))
  show OwnG p e below s _ _ _ (T21.setTop (mkF m 183 _ []))
  refine own_by (fun _ K => XS.aload X21.here hx rfl (hb hby at_183) rfl rfl K) ?_
  show OwnG p e below s _ _ _ (T21.setTop (mkF m 185 _ [(.ref ob)]))
  obtain ⟨cq26, kq26, q26a, q26b, q26c⟩ := isOf hZ (rfl : T21.heap = T21.heap) S21.1
  obtain ⟨_, _, ⟨T26, L26, k26, n26⟩, -, X26, ⟨Lc26, hQ26, l26, y26, z26⟩, st26⟩ := X21.virtualBack hx (y := (⟨"com/example/etsinta/etsinta/search/Best", "size", "()I"⟩ : MethodName)) (z := (⟨"com/example/etsinta/etsinta/search/Best", "size", "()I"⟩ : MethodName)) hown (mvT hZ (own_w hw 27 rfl)) (mvT hZ (own_w hw 28 rfl)) (notFace_of_selects (args := #[]) (mvT hZ (own_w hw 30 rfl))) (mvT hZ (own_w hw 30 rfl)) (mvT hZ (own_w hw 29 rfl)) (by decide) (backOf (W := 0) (rm4 l Z a0 hw [] ob sa da pa (4 : Int32) fd21 fs21 fp T21.heap n0 sz21 ⟨S21.1, S21.2.1, S21.2.2.1, S21.2.2.2.1, S21.2.2.2.2.1, S21.2.2.2.2.2.1, S21.2.2.2.2.2.2.1, S21.2.2.2.2.2.2.2.1, S21.2.2.2.2.2.2.2.2⟩) hZ (own_w hw 31 rfl) (own_w hw 5 rfl) (by decide) (by decide)) q26a q26c (g := (mkF m 185 #[.val (.int cnt), .val (.int sb), .val (.int pb), .val (.int 4), .val (.ref ss), .val (.ref pa), .val (.ref dd), .val (.ref cc), .val (.ref ob), .unset, .unset] [(.ref ob)])) rfl (by rw [hml]; rfl) (Steps.refl _) (argsL := []) (rest := []) (lenOf pd_8 rfl) rfl (by show 2 * 0 + _ ≤ _; exact Nat.le_of_eq rfl) (hb hby at_185) (fun _ _ => ⟨rfl, (rfl : T21.heap = T21.heap), (by decide : 0 + 1 + 1 + 1 + 1 + 1 + 2 + 0 ≤ _), (by decide : 0 + 4 + 4 + 4 + 4 + 5 + 32 + 0 ≤ _)⟩)
  dsimp only [Pt.U, Pt.locs, Pt.cells, Pt.slots] at X26 l26 y26 z26 st26 hQ26
  subst l26 y26 z26
  refine own_by (fun _ K => st26.trans K) ?_
  obtain ⟨rfl, N26q, hh26⟩ := hQ26
  have N26 := Fr.app N21 N26q
  have f27 := S21.1
  rw [← hh26] at f27
  have f28 := f23
  rw [← hh26] at f28
  have f29 := f24
  rw [← hh26] at f29
  have f30 := f25
  rw [← hh26] at f30
  have f31 := S21.2.1
  rw [← hh26] at f31
  have f32 := S21.2.2.1
  rw [← hh26] at f32
  have f33 := S21.2.2.2.1
  rw [← hh26] at f33
  have f34 := S21.2.2.2.2.1
  rw [← hh26] at f34
  have f35 := S21.2.2.2.2.2.1
  rw [← hh26] at f35
  have f36 := S21.2.2.2.2.2.2.1
  rw [← hh26] at f36
  have f37 := S21.2.2.2.2.2.2.2.1
  rw [← hh26] at f37
  have f38 := S21.2.2.2.2.2.2.2.2
  rw [← hh26] at f38
  have sz26 : n0 ≤ T26.heap.size := by rw [hh26]; exact sz21
  show OwnG p e below s _ _ _ (T26.setTop (mkF m 188 _ [(.int 4)]))
  refine own_by (fun _ K => XS.iloadN X26.here hx rfl (hb hby at_188) rfl K) ?_
  show OwnG p e below s _ _ _ (T26.setTop (mkF m 189 _ [(.int 4), (.int 4)]))
  refine own_by (fun _ K => XS.icmpYes X26.here hx rfl (pc0 := 189) (pc' := 194) rfl (hb hby at_189) rfl (teq (by decide)).1 (by decide) (by decide) K) ?_
  show OwnG p e below s _ _ _ (T26.setTop (mkF m 194 _ []))
  rw [hU1] at hU6
  obtain ⟨ho0, ho1, ho2, hp⟩ := own_fin4 hU6 hU11 hU16 hR21
  obtain ⟨hb0, hb1, hb2, hb3, hm⟩ := own_g4 hp
  exact own_r4 cnt sb pb sv pl ob sa da pa ss dd cc fd21 fs21 fp fss r21_0 r21_1 r21_2 r21_3 X26 hx hby hml hret hlk hown hnm hZ hw (rfl : T26.heap = T26.heap) N26 sz26 ⟨f27, f31, f32, f33, f34, f35, f36, f37, f38⟩ Nn Mm hP hss f28 f29 f30 gd gc ⟨t21_0.1, t21_0.2.1, t21_0.2.2⟩ ⟨t21_1.1, t21_1.2.1, t21_1.2.2⟩ ⟨t21_2.1, t21_2.2.1, t21_2.2.2⟩ ⟨t21_3.1, t21_3.2.1, t21_3.2.2⟩ hb0 hb1 hb2 hb3 ho0 ho1 ho2 hm
theorem ef_0 (m : MethodId) (x0 : Int32) (x1 : Int32) (x2 : Int32) : entryFrame m #[(.int x0), (.int x1), (.int x2)] maxLocals = mkF m 0 #[.val (.int x0), .val (.int x1), .val (.int x2), .unset, .unset, .unset, .unset, .unset, .unset, .unset, .unset] [] := by first | (simp [entryFrame, mkF, argsToLocals, Value.category, maxLocals]; done) | rfl
def Q0 (Z : State) (cnt sb pb : Int32) (h0 : Heap) (n0 : Nat) (v : Option Value) (h : Heap) (L : List Loc) : Prop := v = some (.int 1) ∧ Fr n0 L
set_option maxRecDepth 65536 in
set_option maxHeartbeats 40000000 in
theorem rm0 (l : Launch) (Z : State) (a0 : Array Value) (hw : ∀ d ∈ tables_1, d.before a0 Z = true) (ws : List Jvm.Cond) (cnt sb pb : Int32) (h0 : Heap) (n0 : Nat) (Z0 : n0 ≤ h0.size) :
    MetFree l x (head1 (Jvm.Cond.code x code maxLocals ret :: ws) room_1) (fun aa_ U => aa_ = #[(.int cnt), (.int sb), (.int pb)] ∧ Z.Warmed39 U.vm ∧ U.heap = h0) (fun _ _ _ _ _ => True) (fun _ U o U' => ∃ v L, o = .returned v ∧ Q0 Z cnt sb pb h0 n0 v U'.heap L ∧ FrameEnd U o U' L room_1.cells room_1.slots) := by
  refine own_met (Q := fun v h L => Q0 Z cnt sb pb h0 n0 v h L) (plainFor_of_name pn_1) ?_
  intro p e s m below meth c s₁ hx hby hml hret hlk hown hnm hZ X0 e0
  have N0 := Fr.nil n0
  rw [ef_0 m cnt sb pb]
  show OwnG p e below s _ _ _ (s₁.setTop (mkF m 0 #[.val (.int cnt), .val (.int sb), .val (.int pb), .unset, .unset, .unset, .unset, .unset, .unset, .unset, .unset] []))
  refine own_by (fun _ K => XS.iloadN X0.here hx rfl (hb hby at_0) rfl K) ?_
  show OwnG p e below s _ _ _ (s₁.setTop (mkF m 1 _ [(.int cnt)]))
  refine own_by (fun _ K => X0.ldcInt hx hown (mvT hZ (own_w hw 0 rfl)) (g := (mkF m 1 #[.val (.int cnt), .val (.int sb), .val (.int pb), .unset, .unset, .unset, .unset, .unset, .unset, .unset, .unset] [(.int cnt)])) rfl (hb hby at_1) _ K) ?_
  show OwnG p e below s _ _ _ (s₁.setTop (mkF m 3 #[.val (.int cnt), .val (.int sb), .val (.int pb), .unset, .unset, .unset, .unset, .unset, .unset, .unset, .unset] [(.int 2147483647), (.int cnt)]))
  refine own_by (fun _ K => XS.iand X0.here hx rfl (hb hby at_3) rfl K) ?_
  show OwnG p e below s _ _ _ (s₁.setTop (mkF m 4 _ [(.int (cnt &&& (2147483647 : Int32)))]))
  refine own_by (fun _ K => XS.iconst X0.here hx rfl (hb hby at_4) K) ?_
  show OwnG p e below s _ _ _ (s₁.setTop (mkF m 5 _ [(.int 5), (.int (cnt &&& (2147483647 : Int32)))]))
  refine own_by (fun _ K => XS.irem X0.here hx rfl (hb hby at_5) rfl (by decide) K) ?_
  show OwnG p e below s _ _ _ (s₁.setTop (mkF m 6 _ [(.int ((cnt &&& (2147483647 : Int32)) - ((cnt &&& (2147483647 : Int32)) / (5 : Int32)) * (5 : Int32)))]))
  obtain ⟨nn, hne, hnk⟩ := own_n5 cnt
  rw [hne]
  show OwnG p e below s _ _ _ (s₁.setTop (mkF m 6 #[.val (.int cnt), .val (.int sb), .val (.int pb), .unset, .unset, .unset, .unset, .unset, .unset, .unset, .unset] [(.int nn)]))
  refine own_by (fun _ K => XS.istoreN X0.here hx rfl (hb hby at_6) rfl (l' := #[.val (.int cnt), .val (.int sb), .val (.int pb), .val (.int nn), .unset, .unset, .unset, .unset, .unset, .unset, .unset]) rfl K) ?_
  show OwnG p e below s _ _ _ (s₁.setTop (mkF m 7 _ []))
  refine own_by (fun _ K => XS.iconst X0.here hx rfl (hb hby at_7) K) ?_
  show OwnG p e below s _ _ _ (s₁.setTop (mkF m 8 _ [(.int 4)]))
  obtain ⟨T1, h1, k1, X1, e1, E1, A1, st1⟩ := newP X0 hx hZ (own_w hw 1 rfl) e0 (g := (mkF m 8 #[.val (.int cnt), .val (.int sb), .val (.int pb), .val (.int nn), .unset, .unset, .unset, .unset, .unset, .unset, .unset] [(.int 4)])) rfl (hb hby at_8) rfl (by decide) (cap := 4) (by decide) (by decide) (by decide) (by decide)
  obtain ⟨ss, g1⟩ : ∃ z, z = h0.size := ⟨_, rfl⟩
  rw [← g1] at A1 st1
  have gg_ss : n0 ≤ ss := by rw [g1]; exact Z0
  have sz1 : n0 ≤ h1.size := Nat.le_trans Z0 E1.1
  refine own_by (fun _ K => st1 _ K) ?_
  have f2 : OwnA Z h1 ss .double 4 (fun _ => (defaultValue .double)) := OwnA.new A1 (n := 4) (by decide) rfl
  show OwnG p e below s _ _ _ (T1.setTop (mkF m 10 _ [(.ref ss)]))
  refine own_by (fun _ K => XS.astore X1.here hx rfl (hb hby at_10) rfl rfl (l' := #[.val (.int cnt), .val (.int sb), .val (.int pb), .val (.int nn), .val (.ref ss), .unset, .unset, .unset, .unset, .unset, .unset]) rfl K) ?_
  show OwnG p e below s _ _ _ (T1.setTop (mkF m 12 _ []))
  refine own_by (fun _ K => XS.iconst X1.here hx rfl (hb hby at_12) K) ?_
  show OwnG p e below s _ _ _ (T1.setTop (mkF m 13 _ [(.int 4)]))
  obtain ⟨T3, h3, k3, X3, e3, E3, A3, st3⟩ := newP X1 hx hZ (own_w hw 2 rfl) e1 (g := (mkF m 13 #[.val (.int cnt), .val (.int sb), .val (.int pb), .val (.int nn), .val (.ref ss), .unset, .unset, .unset, .unset, .unset, .unset] [(.int 4)])) rfl (hb hby at_13) rfl (by decide) (cap := 4) (by decide) (by decide) (by decide) (by decide)
  obtain ⟨pa, g3⟩ : ∃ z, z = h1.size := ⟨_, rfl⟩
  rw [← g3] at A3 st3
  have ne4 : ss ≠ pa := fun q => absurd f2.lt (by rw [q, g3]; exact Nat.lt_irrefl _)
  have gg_pa : n0 ≤ pa := by rw [g3]; exact sz1
  have sz3 : n0 ≤ h3.size := Nat.le_trans sz1 E3.1
  refine own_by (fun _ K => st3 _ K) ?_
  have f5 := OwnA.ext E3 f2
  have f6 : OwnA Z h3 pa .int 4 (fun _ => (defaultValue .int)) := OwnA.new A3 (n := 4) (by decide) rfl
  show OwnG p e below s _ _ _ (T3.setTop (mkF m 15 _ [(.ref pa)]))
  refine own_by (fun _ K => XS.astore X3.here hx rfl (hb hby at_15) rfl rfl (l' := #[.val (.int cnt), .val (.int sb), .val (.int pb), .val (.int nn), .val (.ref ss), .val (.ref pa), .unset, .unset, .unset, .unset, .unset]) rfl K) ?_
  show OwnG p e below s _ _ _ (T3.setTop (mkF m 17 _ []))
  refine own_by (fun _ K => XS.aload X3.here hx rfl (hb hby at_17) rfl rfl K) ?_
  show OwnG p e below s _ _ _ (T3.setTop (mkF m 19 _ [(.ref ss)]))
  refine own_by (fun _ K => XS.iconst X3.here hx rfl (hb hby at_19) K) ?_
  show OwnG p e below s _ _ _ (T3.setTop (mkF m 20 _ [(.int 0), (.ref ss)]))
  refine own_by (fun _ K => XS.iloadN X3.here hx rfl (hb hby at_20) rfl K) ?_
  show OwnG p e below s _ _ _ (T3.setTop (mkF m 21 _ [(.int sb), (.int 0), (.ref ss)]))
  refine own_by (fun _ K => XS.iconst X3.here hx rfl (hb hby at_21) K) ?_
  show OwnG p e below s _ _ _ (T3.setTop (mkF m 22 _ [(.int 3), (.int sb), (.int 0), (.ref ss)]))
  refine own_by (fun _ K => XS.iand X3.here hx rfl (hb hby at_22) rfl K) ?_
  show OwnG p e below s _ _ _ (T3.setTop (mkF m 23 _ [(.int (sb &&& (3 : Int32))), (.int 0), (.ref ss)]))
  refine own_by (fun _ K => XS.iconst X3.here hx rfl (hb hby at_23) K) ?_
  show OwnG p e below s _ _ _ (T3.setTop (mkF m 24 _ [(.int 1), (.int (sb &&& (3 : Int32))), (.int 0), (.ref ss)]))
  refine own_by (fun _ K => XS.isub X3.here hx rfl (hb hby at_24) rfl K) ?_
  show OwnG p e below s _ _ _ (T3.setTop (mkF m 25 _ [(.int ((sb &&& (3 : Int32)) - (1 : Int32))), (.int 0), (.ref ss)]))
  refine own_by (fun _ K => XS.i2dS X3.here hx rfl (hb hby at_25) rfl rfl K) ?_
  show OwnG p e below s _ _ _ (T3.setTop (mkF m 26 _ [(.double (FP.i2d ((sb &&& (3 : Int32)) - (1 : Int32)))), (.int 0), (.ref ss)]))
  obtain ⟨T7, h7, X7, e7, W7, A7, st7⟩ := own_stD X3 hx hZ e3 f5 (j := (0 : Int32)) (i := 0) ⟨by decide, rfl, by decide⟩ (g := (mkF m 26 #[.val (.int cnt), .val (.int sb), .val (.int pb), .val (.int nn), .val (.ref ss), .val (.ref pa), .unset, .unset, .unset, .unset, .unset] [(.double (FP.i2d ((sb &&& (3 : Int32)) - (1 : Int32)))), (.int 0), (.ref ss)])) rfl rfl (hb hby at_26)
  refine own_by (fun _ K => st7 _ K) ?_
  have f9 := OwnA.other W7 f6 (Ne.symm ne4)
  have N7 := Fr.snoc X7 N0 gg_ss
  have sz7 : n0 ≤ h7.size := by rw [W7.size]; exact sz3
  show OwnG p e below s _ _ _ (T7.setTop (mkF m 27 _ []))
  refine own_by (fun _ K => XS.aload X7.here hx rfl (hb hby at_27) rfl rfl K) ?_
  show OwnG p e below s _ _ _ (T7.setTop (mkF m 29 _ [(.ref ss)]))
  refine own_by (fun _ K => XS.iconst X7.here hx rfl (hb hby at_29) K) ?_
  show OwnG p e below s _ _ _ (T7.setTop (mkF m 30 _ [(.int 1), (.ref ss)]))
  refine own_by (fun _ K => XS.iloadN X7.here hx rfl (hb hby at_30) rfl K) ?_
  show OwnG p e below s _ _ _ (T7.setTop (mkF m 31 _ [(.int sb), (.int 1), (.ref ss)]))
  refine own_by (fun _ K => XS.iconst X7.here hx rfl (hb hby at_31) K) ?_
  show OwnG p e below s _ _ _ (T7.setTop (mkF m 32 _ [(.int 2), (.int sb), (.int 1), (.ref ss)]))
  refine own_by (fun _ K => XS.ishr X7.here hx rfl (hb hby at_32) rfl K) ?_
  show OwnG p e below s _ _ _ (T7.setTop (mkF m 33 _ [(.int (sb >>> ((2 : Int32) &&& 31))), (.int 1), (.ref ss)]))
  refine own_by (fun _ K => XS.iconst X7.here hx rfl (hb hby at_33) K) ?_
  show OwnG p e below s _ _ _ (T7.setTop (mkF m 34 _ [(.int 3), (.int (sb >>> ((2 : Int32) &&& 31))), (.int 1), (.ref ss)]))
  refine own_by (fun _ K => XS.iand X7.here hx rfl (hb hby at_34) rfl K) ?_
  show OwnG p e below s _ _ _ (T7.setTop (mkF m 35 _ [(.int ((sb >>> ((2 : Int32) &&& 31)) &&& (3 : Int32))), (.int 1), (.ref ss)]))
  refine own_by (fun _ K => XS.iconst X7.here hx rfl (hb hby at_35) K) ?_
  show OwnG p e below s _ _ _ (T7.setTop (mkF m 36 _ [(.int 1), (.int ((sb >>> ((2 : Int32) &&& 31)) &&& (3 : Int32))), (.int 1), (.ref ss)]))
  refine own_by (fun _ K => XS.isub X7.here hx rfl (hb hby at_36) rfl K) ?_
  show OwnG p e below s _ _ _ (T7.setTop (mkF m 37 _ [(.int (((sb >>> ((2 : Int32) &&& 31)) &&& (3 : Int32)) - (1 : Int32))), (.int 1), (.ref ss)]))
  refine own_by (fun _ K => XS.i2dS X7.here hx rfl (hb hby at_37) rfl rfl K) ?_
  show OwnG p e below s _ _ _ (T7.setTop (mkF m 38 _ [(.double (FP.i2d (((sb >>> ((2 : Int32) &&& 31)) &&& (3 : Int32)) - (1 : Int32)))), (.int 1), (.ref ss)]))
  obtain ⟨T10, h10, X10, e10, W10, A10, st10⟩ := own_stD X7 hx hZ e7 A7 (j := (1 : Int32)) (i := 1) ⟨by decide, rfl, by decide⟩ (g := (mkF m 38 #[.val (.int cnt), .val (.int sb), .val (.int pb), .val (.int nn), .val (.ref ss), .val (.ref pa), .unset, .unset, .unset, .unset, .unset] [(.double (FP.i2d (((sb >>> ((2 : Int32) &&& 31)) &&& (3 : Int32)) - (1 : Int32)))), (.int 1), (.ref ss)])) rfl rfl (hb hby at_38)
  refine own_by (fun _ K => st10 _ K) ?_
  have f12 := OwnA.other W10 f9 (Ne.symm ne4)
  have N10 := Fr.snoc X10 N7 gg_ss
  have sz10 : n0 ≤ h10.size := by rw [W10.size]; exact sz7
  show OwnG p e below s _ _ _ (T10.setTop (mkF m 39 _ []))
  refine own_by (fun _ K => XS.aload X10.here hx rfl (hb hby at_39) rfl rfl K) ?_
  show OwnG p e below s _ _ _ (T10.setTop (mkF m 41 _ [(.ref ss)]))
  refine own_by (fun _ K => XS.iconst X10.here hx rfl (hb hby at_41) K) ?_
  show OwnG p e below s _ _ _ (T10.setTop (mkF m 42 _ [(.int 2), (.ref ss)]))
  refine own_by (fun _ K => XS.iloadN X10.here hx rfl (hb hby at_42) rfl K) ?_
  show OwnG p e below s _ _ _ (T10.setTop (mkF m 43 _ [(.int sb), (.int 2), (.ref ss)]))
  refine own_by (fun _ K => XS.iconst X10.here hx rfl (hb hby at_43) K) ?_
  show OwnG p e below s _ _ _ (T10.setTop (mkF m 44 _ [(.int 4), (.int sb), (.int 2), (.ref ss)]))
  refine own_by (fun _ K => XS.ishr X10.here hx rfl (hb hby at_44) rfl K) ?_
  show OwnG p e below s _ _ _ (T10.setTop (mkF m 45 _ [(.int (sb >>> ((4 : Int32) &&& 31))), (.int 2), (.ref ss)]))
  refine own_by (fun _ K => XS.iconst X10.here hx rfl (hb hby at_45) K) ?_
  show OwnG p e below s _ _ _ (T10.setTop (mkF m 46 _ [(.int 3), (.int (sb >>> ((4 : Int32) &&& 31))), (.int 2), (.ref ss)]))
  refine own_by (fun _ K => XS.iand X10.here hx rfl (hb hby at_46) rfl K) ?_
  show OwnG p e below s _ _ _ (T10.setTop (mkF m 47 _ [(.int ((sb >>> ((4 : Int32) &&& 31)) &&& (3 : Int32))), (.int 2), (.ref ss)]))
  refine own_by (fun _ K => XS.iconst X10.here hx rfl (hb hby at_47) K) ?_
  show OwnG p e below s _ _ _ (T10.setTop (mkF m 48 _ [(.int 1), (.int ((sb >>> ((4 : Int32) &&& 31)) &&& (3 : Int32))), (.int 2), (.ref ss)]))
  refine own_by (fun _ K => XS.isub X10.here hx rfl (hb hby at_48) rfl K) ?_
  show OwnG p e below s _ _ _ (T10.setTop (mkF m 49 _ [(.int (((sb >>> ((4 : Int32) &&& 31)) &&& (3 : Int32)) - (1 : Int32))), (.int 2), (.ref ss)]))
  refine own_by (fun _ K => XS.i2dS X10.here hx rfl (hb hby at_49) rfl rfl K) ?_
  show OwnG p e below s _ _ _ (T10.setTop (mkF m 50 _ [(.double (FP.i2d (((sb >>> ((4 : Int32) &&& 31)) &&& (3 : Int32)) - (1 : Int32)))), (.int 2), (.ref ss)]))
  obtain ⟨T13, h13, X13, e13, W13, A13, st13⟩ := own_stD X10 hx hZ e10 A10 (j := (2 : Int32)) (i := 2) ⟨by decide, rfl, by decide⟩ (g := (mkF m 50 #[.val (.int cnt), .val (.int sb), .val (.int pb), .val (.int nn), .val (.ref ss), .val (.ref pa), .unset, .unset, .unset, .unset, .unset] [(.double (FP.i2d (((sb >>> ((4 : Int32) &&& 31)) &&& (3 : Int32)) - (1 : Int32)))), (.int 2), (.ref ss)])) rfl rfl (hb hby at_50)
  refine own_by (fun _ K => st13 _ K) ?_
  have f15 := OwnA.other W13 f12 (Ne.symm ne4)
  have N13 := Fr.snoc X13 N10 gg_ss
  have sz13 : n0 ≤ h13.size := by rw [W13.size]; exact sz10
  show OwnG p e below s _ _ _ (T13.setTop (mkF m 51 _ []))
  refine own_by (fun _ K => XS.aload X13.here hx rfl (hb hby at_51) rfl rfl K) ?_
  show OwnG p e below s _ _ _ (T13.setTop (mkF m 53 _ [(.ref ss)]))
  refine own_by (fun _ K => XS.iconst X13.here hx rfl (hb hby at_53) K) ?_
  show OwnG p e below s _ _ _ (T13.setTop (mkF m 54 _ [(.int 3), (.ref ss)]))
  refine own_by (fun _ K => XS.iloadN X13.here hx rfl (hb hby at_54) rfl K) ?_
  show OwnG p e below s _ _ _ (T13.setTop (mkF m 55 _ [(.int sb), (.int 3), (.ref ss)]))
  refine own_by (fun _ K => XS.bipush X13.here hx rfl (hb hby at_55) K) ?_
  show OwnG p e below s _ _ _ (T13.setTop (mkF m 57 _ [(.int 6), (.int sb), (.int 3), (.ref ss)]))
  refine own_by (fun _ K => XS.ishr X13.here hx rfl (hb hby at_57) rfl K) ?_
  show OwnG p e below s _ _ _ (T13.setTop (mkF m 58 _ [(.int (sb >>> ((6 : Int32) &&& 31))), (.int 3), (.ref ss)]))
  refine own_by (fun _ K => XS.iconst X13.here hx rfl (hb hby at_58) K) ?_
  show OwnG p e below s _ _ _ (T13.setTop (mkF m 59 _ [(.int 3), (.int (sb >>> ((6 : Int32) &&& 31))), (.int 3), (.ref ss)]))
  refine own_by (fun _ K => XS.iand X13.here hx rfl (hb hby at_59) rfl K) ?_
  show OwnG p e below s _ _ _ (T13.setTop (mkF m 60 _ [(.int ((sb >>> ((6 : Int32) &&& 31)) &&& (3 : Int32))), (.int 3), (.ref ss)]))
  refine own_by (fun _ K => XS.iconst X13.here hx rfl (hb hby at_60) K) ?_
  show OwnG p e below s _ _ _ (T13.setTop (mkF m 61 _ [(.int 1), (.int ((sb >>> ((6 : Int32) &&& 31)) &&& (3 : Int32))), (.int 3), (.ref ss)]))
  refine own_by (fun _ K => XS.isub X13.here hx rfl (hb hby at_61) rfl K) ?_
  show OwnG p e below s _ _ _ (T13.setTop (mkF m 62 _ [(.int (((sb >>> ((6 : Int32) &&& 31)) &&& (3 : Int32)) - (1 : Int32))), (.int 3), (.ref ss)]))
  refine own_by (fun _ K => XS.i2dS X13.here hx rfl (hb hby at_62) rfl rfl K) ?_
  show OwnG p e below s _ _ _ (T13.setTop (mkF m 63 _ [(.double (FP.i2d (((sb >>> ((6 : Int32) &&& 31)) &&& (3 : Int32)) - (1 : Int32)))), (.int 3), (.ref ss)]))
  obtain ⟨T16, h16, X16, e16, W16, A16, st16⟩ := own_stD X13 hx hZ e13 A13 (j := (3 : Int32)) (i := 3) ⟨by decide, rfl, by decide⟩ (g := (mkF m 63 #[.val (.int cnt), .val (.int sb), .val (.int pb), .val (.int nn), .val (.ref ss), .val (.ref pa), .unset, .unset, .unset, .unset, .unset] [(.double (FP.i2d (((sb >>> ((6 : Int32) &&& 31)) &&& (3 : Int32)) - (1 : Int32)))), (.int 3), (.ref ss)])) rfl rfl (hb hby at_63)
  refine own_by (fun _ K => st16 _ K) ?_
  have f18 := OwnA.other W16 f15 (Ne.symm ne4)
  have N16 := Fr.snoc X16 N13 gg_ss
  have sz16 : n0 ≤ h16.size := by rw [W16.size]; exact sz13
  show OwnG p e below s _ _ _ (T16.setTop (mkF m 64 _ []))
  refine own_by (fun _ K => XS.aload X16.here hx rfl (hb hby at_64) rfl rfl K) ?_
  show OwnG p e below s _ _ _ (T16.setTop (mkF m 66 _ [(.ref pa)]))
  refine own_by (fun _ K => XS.iconst X16.here hx rfl (hb hby at_66) K) ?_
  show OwnG p e below s _ _ _ (T16.setTop (mkF m 67 _ [(.int 0), (.ref pa)]))
  refine own_by (fun _ K => XS.iloadN X16.here hx rfl (hb hby at_67) rfl K) ?_
  show OwnG p e below s _ _ _ (T16.setTop (mkF m 68 _ [(.int pb), (.int 0), (.ref pa)]))
  refine own_by (fun _ K => XS.i2b X16.here hx rfl (hb hby at_68) rfl K) ?_
  show OwnG p e below s _ _ _ (T16.setTop (mkF m 69 _ [(.int (pb.toInt8.toInt32)), (.int 0), (.ref pa)]))
  obtain ⟨T19, h19, X19, e19, W19, A19, st19⟩ := own_stI X16 hx hZ e16 f18 (j := (0 : Int32)) (i := 0) ⟨by decide, rfl, by decide⟩ (g := (mkF m 69 #[.val (.int cnt), .val (.int sb), .val (.int pb), .val (.int nn), .val (.ref ss), .val (.ref pa), .unset, .unset, .unset, .unset, .unset] [(.int (pb.toInt8.toInt32)), (.int 0), (.ref pa)])) rfl rfl (hb hby at_69)
  refine own_by (fun _ K => st19 _ K) ?_
  have f20 := OwnA.other W19 A16 ne4
  have N19 := Fr.snoc X19 N16 gg_pa
  have sz19 : n0 ≤ h19.size := by rw [W19.size]; exact sz16
  show OwnG p e below s _ _ _ (T19.setTop (mkF m 70 _ []))
  refine own_by (fun _ K => XS.aload X19.here hx rfl (hb hby at_70) rfl rfl K) ?_
  show OwnG p e below s _ _ _ (T19.setTop (mkF m 72 _ [(.ref pa)]))
  refine own_by (fun _ K => XS.iconst X19.here hx rfl (hb hby at_72) K) ?_
  show OwnG p e below s _ _ _ (T19.setTop (mkF m 73 _ [(.int 1), (.ref pa)]))
  refine own_by (fun _ K => XS.iloadN X19.here hx rfl (hb hby at_73) rfl K) ?_
  show OwnG p e below s _ _ _ (T19.setTop (mkF m 74 _ [(.int pb), (.int 1), (.ref pa)]))
  refine own_by (fun _ K => XS.bipush X19.here hx rfl (hb hby at_74) K) ?_
  show OwnG p e below s _ _ _ (T19.setTop (mkF m 76 _ [(.int 8), (.int pb), (.int 1), (.ref pa)]))
  refine own_by (fun _ K => XS.ishr X19.here hx rfl (hb hby at_76) rfl K) ?_
  show OwnG p e below s _ _ _ (T19.setTop (mkF m 77 _ [(.int (pb >>> ((8 : Int32) &&& 31))), (.int 1), (.ref pa)]))
  refine own_by (fun _ K => XS.i2b X19.here hx rfl (hb hby at_77) rfl K) ?_
  show OwnG p e below s _ _ _ (T19.setTop (mkF m 78 _ [(.int ((pb >>> ((8 : Int32) &&& 31)).toInt8.toInt32)), (.int 1), (.ref pa)]))
  obtain ⟨T22, h22, X22, e22, W22, A22, st22⟩ := own_stI X19 hx hZ e19 A19 (j := (1 : Int32)) (i := 1) ⟨by decide, rfl, by decide⟩ (g := (mkF m 78 #[.val (.int cnt), .val (.int sb), .val (.int pb), .val (.int nn), .val (.ref ss), .val (.ref pa), .unset, .unset, .unset, .unset, .unset] [(.int ((pb >>> ((8 : Int32) &&& 31)).toInt8.toInt32)), (.int 1), (.ref pa)])) rfl rfl (hb hby at_78)
  refine own_by (fun _ K => st22 _ K) ?_
  have f23 := OwnA.other W22 f20 ne4
  have N22 := Fr.snoc X22 N19 gg_pa
  have sz22 : n0 ≤ h22.size := by rw [W22.size]; exact sz19
  show OwnG p e below s _ _ _ (T22.setTop (mkF m 79 _ []))
  refine own_by (fun _ K => XS.aload X22.here hx rfl (hb hby at_79) rfl rfl K) ?_
  show OwnG p e below s _ _ _ (T22.setTop (mkF m 81 _ [(.ref pa)]))
  refine own_by (fun _ K => XS.iconst X22.here hx rfl (hb hby at_81) K) ?_
  show OwnG p e below s _ _ _ (T22.setTop (mkF m 82 _ [(.int 2), (.ref pa)]))
  refine own_by (fun _ K => XS.iloadN X22.here hx rfl (hb hby at_82) rfl K) ?_
  show OwnG p e below s _ _ _ (T22.setTop (mkF m 83 _ [(.int pb), (.int 2), (.ref pa)]))
  refine own_by (fun _ K => XS.bipush X22.here hx rfl (hb hby at_83) K) ?_
  show OwnG p e below s _ _ _ (T22.setTop (mkF m 85 _ [(.int 16), (.int pb), (.int 2), (.ref pa)]))
  refine own_by (fun _ K => XS.ishr X22.here hx rfl (hb hby at_85) rfl K) ?_
  show OwnG p e below s _ _ _ (T22.setTop (mkF m 86 _ [(.int (pb >>> ((16 : Int32) &&& 31))), (.int 2), (.ref pa)]))
  refine own_by (fun _ K => XS.i2b X22.here hx rfl (hb hby at_86) rfl K) ?_
  show OwnG p e below s _ _ _ (T22.setTop (mkF m 87 _ [(.int ((pb >>> ((16 : Int32) &&& 31)).toInt8.toInt32)), (.int 2), (.ref pa)]))
  obtain ⟨T25, h25, X25, e25, W25, A25, st25⟩ := own_stI X22 hx hZ e22 A22 (j := (2 : Int32)) (i := 2) ⟨by decide, rfl, by decide⟩ (g := (mkF m 87 #[.val (.int cnt), .val (.int sb), .val (.int pb), .val (.int nn), .val (.ref ss), .val (.ref pa), .unset, .unset, .unset, .unset, .unset] [(.int ((pb >>> ((16 : Int32) &&& 31)).toInt8.toInt32)), (.int 2), (.ref pa)])) rfl rfl (hb hby at_87)
  refine own_by (fun _ K => st25 _ K) ?_
  have f26 := OwnA.other W25 f23 ne4
  have N25 := Fr.snoc X25 N22 gg_pa
  have sz25 : n0 ≤ h25.size := by rw [W25.size]; exact sz22
  show OwnG p e below s _ _ _ (T25.setTop (mkF m 88 _ []))
  refine own_by (fun _ K => XS.aload X25.here hx rfl (hb hby at_88) rfl rfl K) ?_
  show OwnG p e below s _ _ _ (T25.setTop (mkF m 90 _ [(.ref pa)]))
  refine own_by (fun _ K => XS.iconst X25.here hx rfl (hb hby at_90) K) ?_
  show OwnG p e below s _ _ _ (T25.setTop (mkF m 91 _ [(.int 3), (.ref pa)]))
  refine own_by (fun _ K => XS.iloadN X25.here hx rfl (hb hby at_91) rfl K) ?_
  show OwnG p e below s _ _ _ (T25.setTop (mkF m 92 _ [(.int pb), (.int 3), (.ref pa)]))
  refine own_by (fun _ K => XS.bipush X25.here hx rfl (hb hby at_92) K) ?_
  show OwnG p e below s _ _ _ (T25.setTop (mkF m 94 _ [(.int 24), (.int pb), (.int 3), (.ref pa)]))
  refine own_by (fun _ K => XS.ishr X25.here hx rfl (hb hby at_94) rfl K) ?_
  show OwnG p e below s _ _ _ (T25.setTop (mkF m 95 _ [(.int (pb >>> ((24 : Int32) &&& 31))), (.int 3), (.ref pa)]))
  refine own_by (fun _ K => XS.i2b X25.here hx rfl (hb hby at_95) rfl K) ?_
  show OwnG p e below s _ _ _ (T25.setTop (mkF m 96 _ [(.int ((pb >>> ((24 : Int32) &&& 31)).toInt8.toInt32)), (.int 3), (.ref pa)]))
  obtain ⟨T28, h28, X28, e28, W28, A28, st28⟩ := own_stI X25 hx hZ e25 A25 (j := (3 : Int32)) (i := 3) ⟨by decide, rfl, by decide⟩ (g := (mkF m 96 #[.val (.int cnt), .val (.int sb), .val (.int pb), .val (.int nn), .val (.ref ss), .val (.ref pa), .unset, .unset, .unset, .unset, .unset] [(.int ((pb >>> ((24 : Int32) &&& 31)).toInt8.toInt32)), (.int 3), (.ref pa)])) rfl rfl (hb hby at_96)
  refine own_by (fun _ K => st28 _ K) ?_
  have f29 := OwnA.other W28 f26 ne4
  have N28 := Fr.snoc X28 N25 gg_pa
  have sz28 : n0 ≤ h28.size := by rw [W28.size]; exact sz25
  show OwnG p e below s _ _ _ (T28.setTop (mkF m 97 _ []))
  refine own_by (fun _ K => XS.iconst X28.here hx rfl (hb hby at_97) K) ?_
  show OwnG p e below s _ _ _ (T28.setTop (mkF m 98 _ [(.int 4)]))
  obtain ⟨T31, h31, k31, X31, e31, E31, A31, st31⟩ := newP X28 hx hZ (own_w hw 2 rfl) e28 (g := (mkF m 98 #[.val (.int cnt), .val (.int sb), .val (.int pb), .val (.int nn), .val (.ref ss), .val (.ref pa), .unset, .unset, .unset, .unset, .unset] [(.int 4)])) rfl (hb hby at_98) rfl (by decide) (cap := 4) (by decide) (by decide) (by decide) (by decide)
  obtain ⟨dd, g31⟩ : ∃ z, z = h28.size := ⟨_, rfl⟩
  rw [← g31] at A31 st31
  have ne32 : ss ≠ dd := fun q => absurd f29.lt (by rw [q, g31]; exact Nat.lt_irrefl _)
  have ne33 : pa ≠ dd := fun q => absurd A28.lt (by rw [q, g31]; exact Nat.lt_irrefl _)
  have gg_dd : n0 ≤ dd := by rw [g31]; exact sz28
  have sz31 : n0 ≤ h31.size := Nat.le_trans sz28 E31.1
  refine own_by (fun _ K => st31 _ K) ?_
  have f34 := OwnA.ext E31 f29
  have f35 := OwnA.ext E31 A28
  have f36 : OwnA Z h31 dd .int 4 (fun _ => (defaultValue .int)) := OwnA.new A31 (n := 4) (by decide) rfl
  show OwnG p e below s _ _ _ (T31.setTop (mkF m 100 _ [(.ref dd)]))
  refine own_by (fun _ K => XS.astore X31.here hx rfl (hb hby at_100) rfl rfl (l' := #[.val (.int cnt), .val (.int sb), .val (.int pb), .val (.int nn), .val (.ref ss), .val (.ref pa), .val (.ref dd), .unset, .unset, .unset, .unset]) rfl K) ?_
  show OwnG p e below s _ _ _ (T31.setTop (mkF m 102 _ []))
  refine own_by (fun _ K => XS.iconst X31.here hx rfl (hb hby at_102) K) ?_
  show OwnG p e below s _ _ _ (T31.setTop (mkF m 103 _ [(.int 4)]))
  obtain ⟨T37, h37, k37, X37, e37, E37, A37, st37⟩ := newP X31 hx hZ (own_w hw 1 rfl) e31 (g := (mkF m 103 #[.val (.int cnt), .val (.int sb), .val (.int pb), .val (.int nn), .val (.ref ss), .val (.ref pa), .val (.ref dd), .unset, .unset, .unset, .unset] [(.int 4)])) rfl (hb hby at_103) rfl (by decide) (cap := 4) (by decide) (by decide) (by decide) (by decide)
  obtain ⟨cc, g37⟩ : ∃ z, z = h31.size := ⟨_, rfl⟩
  rw [← g37] at A37 st37
  have ne38 : ss ≠ cc := fun q => absurd f34.lt (by rw [q, g37]; exact Nat.lt_irrefl _)
  have ne39 : pa ≠ cc := fun q => absurd f35.lt (by rw [q, g37]; exact Nat.lt_irrefl _)
  have ne40 : dd ≠ cc := fun q => absurd f36.lt (by rw [q, g37]; exact Nat.lt_irrefl _)
  have gg_cc : n0 ≤ cc := by rw [g37]; exact sz31
  have sz37 : n0 ≤ h37.size := Nat.le_trans sz31 E37.1
  refine own_by (fun _ K => st37 _ K) ?_
  have f41 := OwnA.ext E37 f34
  have f42 := OwnA.ext E37 f35
  have f43 := OwnA.ext E37 f36
  have f44 : OwnA Z h37 cc .double 4 (fun _ => (defaultValue .double)) := OwnA.new A37 (n := 4) (by decide) rfl
  show OwnG p e below s _ _ _ (T37.setTop (mkF m 105 _ [(.ref cc)]))
  refine own_by (fun _ K => XS.astore X37.here hx rfl (hb hby at_105) rfl rfl (l' := #[.val (.int cnt), .val (.int sb), .val (.int pb), .val (.int nn), .val (.ref ss), .val (.ref pa), .val (.ref dd), .val (.ref cc), .unset, .unset, .unset]) rfl K) ?_
  show OwnG p e below s _ _ _ (T37.setTop (mkF m 107 _ []))
  obtain ⟨T45, h45, X45, e45, E45, A45, D45, -, st45⟩ := newO X37 hx hZ hown (own_w hw 3 rfl) (own_w hw 4 rfl) (own_w hw 5 rfl) e37 (g := (mkF m 107 #[.val (.int cnt), .val (.int sb), .val (.int pb), .val (.int nn), .val (.ref ss), .val (.ref pa), .val (.ref dd), .val (.ref cc), .unset, .unset, .unset] [])) rfl (hb hby at_107) (by decide) (by decide)
  obtain ⟨ob, g45⟩ : ∃ z, z = h37.size := ⟨_, rfl⟩
  rw [← g45] at A45 D45 st45
  have ne46 : ss ≠ ob := fun q => absurd f41.lt (by rw [q, g45]; exact Nat.lt_irrefl _)
  have ne47 : pa ≠ ob := fun q => absurd f42.lt (by rw [q, g45]; exact Nat.lt_irrefl _)
  have ne48 : dd ≠ ob := fun q => absurd f43.lt (by rw [q, g45]; exact Nat.lt_irrefl _)
  have ne49 : cc ≠ ob := fun q => absurd f44.lt (by rw [q, g45]; exact Nat.lt_irrefl _)
  have gg_ob : n0 ≤ ob := by rw [g45]; exact sz37
  have sz45 : n0 ≤ h45.size := Nat.le_trans sz37 E45.1
  refine own_by (fun _ K => st45 _ K) ?_
  have f50 := OwnA.ext E45 f41
  have f51 := OwnA.ext E45 f42
  have f52 := OwnA.ext E45 f43
  have f53 := OwnA.ext E45 f44
  have f54 : Fld Z h45 ob "com/example/etsinta/etsinta/search/Best" "scores" "[D" .null := D45 (Or.inl (own_w hw 13 rfl)) (ty := (.array .double)) (by decide)
  have f55 : Fld Z h45 ob "com/example/etsinta/etsinta/search/Best" "documents" "[I" .null := D45 (Or.inl (own_w hw 15 rfl)) (ty := (.array .int)) (by decide)
  have f56 : Fld Z h45 ob "com/example/etsinta/etsinta/search/Best" "depth" "I" (.int 0) := D45 (Or.inr (own_w hw 17 rfl)) (ty := .int) (by decide)
  have f57 : Fld Z h45 ob "com/example/etsinta/etsinta/search/Best" "docnoPlaces" "[I" .null := D45 (Or.inr (own_w hw 19 rfl)) (ty := (.array .int)) (by decide)
  have f58 : Fld Z h45 ob "com/example/etsinta/etsinta/search/Best" "size" "I" (.int 0) := D45 (Or.inl (own_w hw 26 rfl)) (ty := .int) (by decide)
  show OwnG p e below s _ _ _ (T45.setTop (mkF m 110 _ [(.ref ob)]))
  refine own_by (fun _ K => XS.dup X45.here hx rfl (hb hby at_110) rfl rfl K) ?_
  show OwnG p e below s _ _ _ (T45.setTop (mkF m 111 _ [(.ref ob), (.ref ob)]))
  refine own_by (fun _ K => XS.iconst X45.here hx rfl (hb hby at_111) K) ?_
  show OwnG p e below s _ _ _ (T45.setTop (mkF m 112 _ [(.int 4), (.ref ob), (.ref ob)]))
  refine own_by (fun _ K => XS.aload X45.here hx rfl (hb hby at_112) rfl rfl K) ?_
  show OwnG p e below s _ _ _ (T45.setTop (mkF m 114 _ [(.ref pa), (.int 4), (.ref ob), (.ref ob)]))
  obtain ⟨_, _, ⟨T59, L59, k59, n59⟩, -, X59, ⟨Lc59, hQ59, l59, y59, z59⟩, st59⟩ := X45.specialBack hx (y := (⟨"com/example/etsinta/etsinta/search/Best", "<init>", "(I[I)V"⟩ : MethodName)) rfl hown (mvT hZ (own_w hw 6 rfl)) (mvT hZ (own_w hw 7 rfl)) (mvT hZ (own_w hw 8 rfl)) (by decide) (backOf (W := 1) (rm1 l Z a0 hw [] ob pa (ownSet (ownSet (ownSet (ownSet (fun _ => (defaultValue .int)) 0 (.int (pb.toInt8.toInt32))) 1 (.int ((pb >>> ((8 : Int32) &&& 31)).toInt8.toInt32))) 2 (.int ((pb >>> ((16 : Int32) &&& 31)).toInt8.toInt32))) 3 (.int ((pb >>> ((24 : Int32) &&& 31)).toInt8.toInt32))) h45 n0 sz45 A45 f54 f55 f56 f57 f58 f51 gg_ob (Ne.symm ne47)) hZ (own_w hw 8 rfl) (own_w hw 5 rfl) (by decide) (by decide)) (g := (mkF m 114 #[.val (.int cnt), .val (.int sb), .val (.int pb), .val (.int nn), .val (.ref ss), .val (.ref pa), .val (.ref dd), .val (.ref cc), .unset, .unset, .unset] [(.ref pa), (.int 4), (.ref ob), (.ref ob)])) rfl (by rw [hml]; rfl) (Steps.refl _) (a := ob) (argsL := [(.int 4), (.ref pa)]) (rest := [(.ref ob)]) (lenOf pd_7 rfl) rfl (by show 2 * 0 + _ ≤ _; exact Nat.le_of_eq rfl) (hb hby at_114) (fun _ _ => ⟨rfl, e45, (by decide : 0 + 1 + 1 + 1 + 1 + 1 + 2 ≤ _), (by decide : 0 + 4 + 4 + 4 + 4 + 5 + 32 ≤ _)⟩)
  dsimp only [Pt.U, Pt.locs, Pt.cells, Pt.slots] at X59 l59 y59 z59 st59 hQ59
  subst l59 y59 z59
  refine own_by (fun _ K => st59.trans K) ?_
  obtain ⟨rfl, N59q, K59, sa, da, fd, fs, S59, nsd, ges, ged⟩ := hQ59
  have N59 := Fr.app N28 N59q
  have sz59 : n0 ≤ T59.heap.size := Nat.le_trans sz45 K59.1
  have gsa : n0 ≤ sa := Nat.le_trans sz45 ges
  have gda : n0 ≤ da := Nat.le_trans sz45 ged
  have n_ob_sa : ob ≠ sa := fun q => absurd (Exa.lt A45) (by rw [q]; exact Nat.not_lt.mpr ges)
  have n_pa_sa : pa ≠ sa := fun q => absurd (OwnA.lt f51) (by rw [q]; exact Nat.not_lt.mpr ges)
  have n_ss_sa : ss ≠ sa := fun q => absurd (OwnA.lt f50) (by rw [q]; exact Nat.not_lt.mpr ges)
  have n_dd_sa : dd ≠ sa := fun q => absurd (OwnA.lt f52) (by rw [q]; exact Nat.not_lt.mpr ges)
  have n_cc_sa : cc ≠ sa := fun q => absurd (OwnA.lt f53) (by rw [q]; exact Nat.not_lt.mpr ges)
  have n_ob_da : ob ≠ da := fun q => absurd (Exa.lt A45) (by rw [q]; exact Nat.not_lt.mpr ged)
  have n_pa_da : pa ≠ da := fun q => absurd (OwnA.lt f51) (by rw [q]; exact Nat.not_lt.mpr ged)
  have n_ss_da : ss ≠ da := fun q => absurd (OwnA.lt f50) (by rw [q]; exact Nat.not_lt.mpr ged)
  have n_dd_da : dd ≠ da := fun q => absurd (OwnA.lt f52) (by rw [q]; exact Nat.not_lt.mpr ged)
  have n_cc_da : cc ≠ da := fun q => absurd (OwnA.lt f53) (by rw [q]; exact Nat.not_lt.mpr ged)
  have f60 := OwnA.keep f50 K59 (ninS ne46 nin0)
  have f61 := OwnA.keep f51 K59 (ninS ne47 nin0)
  have f62 := OwnA.keep f52 K59 (ninS ne48 nin0)
  have f63 := OwnA.keep f53 K59 (ninS ne49 nin0)
  have f64 := Exa.keep A45 K59
  show OwnG p e below s _ _ _ (T59.setTop (mkF m 117 _ [(.ref ob)]))
  refine own_by (fun _ K => XS.astore X59.here hx rfl (hb hby at_117) rfl rfl (l' := #[.val (.int cnt), .val (.int sb), .val (.int pb), .val (.int nn), .val (.ref ss), .val (.ref pa), .val (.ref dd), .val (.ref cc), .val (.ref ob), .unset, .unset]) rfl K) ?_
  show OwnG p e below s _ _ _ (T59.setTop (mkF m 119 _ []))
  rcases hnk with rfl | rfl | rfl | rfl | rfl
  · exact own_n0 cnt sb pb (own_sel ((sb &&& (3 : Int32)) - (1 : Int32)) (((sb >>> ((2 : Int32) &&& 31)) &&& (3 : Int32)) - (1 : Int32)) (((sb >>> ((4 : Int32) &&& 31)) &&& (3 : Int32)) - (1 : Int32)) (((sb >>> ((6 : Int32) &&& 31)) &&& (3 : Int32)) - (1 : Int32))) (own_sel (pb.toInt8.toInt32) ((pb >>> ((8 : Int32) &&& 31)).toInt8.toInt32) ((pb >>> ((16 : Int32) &&& 31)).toInt8.toInt32) ((pb >>> ((24 : Int32) &&& 31)).toInt8.toInt32)) ob sa da pa ss dd cc fd fs (ownSet (ownSet (ownSet (ownSet (fun _ => (defaultValue .int)) 0 (.int (pb.toInt8.toInt32))) 1 (.int ((pb >>> ((8 : Int32) &&& 31)).toInt8.toInt32))) 2 (.int ((pb >>> ((16 : Int32) &&& 31)).toInt8.toInt32))) 3 (.int ((pb >>> ((24 : Int32) &&& 31)).toInt8.toInt32))) (ownSet (ownSet (ownSet (ownSet (fun _ => (defaultValue .double)) 0 (.double (FP.i2d ((sb &&& (3 : Int32)) - (1 : Int32))))) 1 (.double (FP.i2d (((sb >>> ((2 : Int32) &&& 31)) &&& (3 : Int32)) - (1 : Int32))))) 2 (.double (FP.i2d (((sb >>> ((4 : Int32) &&& 31)) &&& (3 : Int32)) - (1 : Int32))))) 3 (.double (FP.i2d (((sb >>> ((6 : Int32) &&& 31)) &&& (3 : Int32)) - (1 : Int32))))) X59 hx hby hml hret hlk hown hnm hZ hw (rfl : T59.heap = T59.heap) N59 sz59 ⟨S59.1, S59.2.1, S59.2.2.1, S59.2.2.2.1, S59.2.2.2.2.1, S59.2.2.2.2.2.1, S59.2.2.2.2.2.2.1, S59.2.2.2.2.2.2.2.1, S59.2.2.2.2.2.2.2.2⟩ ⟨gg_ob, gsa, gda, n_ob_sa, n_ob_da, (Ne.symm ne47), nsd, (Ne.symm n_pa_sa), (Ne.symm n_pa_da)⟩ ⟨ne46, n_ss_sa, n_ss_da, ne48, n_dd_sa, n_dd_da, ne49, n_cc_sa, n_cc_da, ne32, ne33, ne38, ne39, ne40⟩ (own_selP rfl rfl rfl rfl) (own_selS rfl rfl rfl rfl) f60 f62 f63 gg_dd gg_cc
  · exact own_n1 cnt sb pb (own_sel ((sb &&& (3 : Int32)) - (1 : Int32)) (((sb >>> ((2 : Int32) &&& 31)) &&& (3 : Int32)) - (1 : Int32)) (((sb >>> ((4 : Int32) &&& 31)) &&& (3 : Int32)) - (1 : Int32)) (((sb >>> ((6 : Int32) &&& 31)) &&& (3 : Int32)) - (1 : Int32))) (own_sel (pb.toInt8.toInt32) ((pb >>> ((8 : Int32) &&& 31)).toInt8.toInt32) ((pb >>> ((16 : Int32) &&& 31)).toInt8.toInt32) ((pb >>> ((24 : Int32) &&& 31)).toInt8.toInt32)) ob sa da pa ss dd cc fd fs (ownSet (ownSet (ownSet (ownSet (fun _ => (defaultValue .int)) 0 (.int (pb.toInt8.toInt32))) 1 (.int ((pb >>> ((8 : Int32) &&& 31)).toInt8.toInt32))) 2 (.int ((pb >>> ((16 : Int32) &&& 31)).toInt8.toInt32))) 3 (.int ((pb >>> ((24 : Int32) &&& 31)).toInt8.toInt32))) (ownSet (ownSet (ownSet (ownSet (fun _ => (defaultValue .double)) 0 (.double (FP.i2d ((sb &&& (3 : Int32)) - (1 : Int32))))) 1 (.double (FP.i2d (((sb >>> ((2 : Int32) &&& 31)) &&& (3 : Int32)) - (1 : Int32))))) 2 (.double (FP.i2d (((sb >>> ((4 : Int32) &&& 31)) &&& (3 : Int32)) - (1 : Int32))))) 3 (.double (FP.i2d (((sb >>> ((6 : Int32) &&& 31)) &&& (3 : Int32)) - (1 : Int32))))) X59 hx hby hml hret hlk hown hnm hZ hw (rfl : T59.heap = T59.heap) N59 sz59 ⟨S59.1, S59.2.1, S59.2.2.1, S59.2.2.2.1, S59.2.2.2.2.1, S59.2.2.2.2.2.1, S59.2.2.2.2.2.2.1, S59.2.2.2.2.2.2.2.1, S59.2.2.2.2.2.2.2.2⟩ ⟨gg_ob, gsa, gda, n_ob_sa, n_ob_da, (Ne.symm ne47), nsd, (Ne.symm n_pa_sa), (Ne.symm n_pa_da)⟩ ⟨ne46, n_ss_sa, n_ss_da, ne48, n_dd_sa, n_dd_da, ne49, n_cc_sa, n_cc_da, ne32, ne33, ne38, ne39, ne40⟩ (own_selP rfl rfl rfl rfl) (own_selS rfl rfl rfl rfl) f60 f62 f63 gg_dd gg_cc
  · exact own_n2 cnt sb pb (own_sel ((sb &&& (3 : Int32)) - (1 : Int32)) (((sb >>> ((2 : Int32) &&& 31)) &&& (3 : Int32)) - (1 : Int32)) (((sb >>> ((4 : Int32) &&& 31)) &&& (3 : Int32)) - (1 : Int32)) (((sb >>> ((6 : Int32) &&& 31)) &&& (3 : Int32)) - (1 : Int32))) (own_sel (pb.toInt8.toInt32) ((pb >>> ((8 : Int32) &&& 31)).toInt8.toInt32) ((pb >>> ((16 : Int32) &&& 31)).toInt8.toInt32) ((pb >>> ((24 : Int32) &&& 31)).toInt8.toInt32)) ob sa da pa ss dd cc fd fs (ownSet (ownSet (ownSet (ownSet (fun _ => (defaultValue .int)) 0 (.int (pb.toInt8.toInt32))) 1 (.int ((pb >>> ((8 : Int32) &&& 31)).toInt8.toInt32))) 2 (.int ((pb >>> ((16 : Int32) &&& 31)).toInt8.toInt32))) 3 (.int ((pb >>> ((24 : Int32) &&& 31)).toInt8.toInt32))) (ownSet (ownSet (ownSet (ownSet (fun _ => (defaultValue .double)) 0 (.double (FP.i2d ((sb &&& (3 : Int32)) - (1 : Int32))))) 1 (.double (FP.i2d (((sb >>> ((2 : Int32) &&& 31)) &&& (3 : Int32)) - (1 : Int32))))) 2 (.double (FP.i2d (((sb >>> ((4 : Int32) &&& 31)) &&& (3 : Int32)) - (1 : Int32))))) 3 (.double (FP.i2d (((sb >>> ((6 : Int32) &&& 31)) &&& (3 : Int32)) - (1 : Int32))))) X59 hx hby hml hret hlk hown hnm hZ hw (rfl : T59.heap = T59.heap) N59 sz59 ⟨S59.1, S59.2.1, S59.2.2.1, S59.2.2.2.1, S59.2.2.2.2.1, S59.2.2.2.2.2.1, S59.2.2.2.2.2.2.1, S59.2.2.2.2.2.2.2.1, S59.2.2.2.2.2.2.2.2⟩ ⟨gg_ob, gsa, gda, n_ob_sa, n_ob_da, (Ne.symm ne47), nsd, (Ne.symm n_pa_sa), (Ne.symm n_pa_da)⟩ ⟨ne46, n_ss_sa, n_ss_da, ne48, n_dd_sa, n_dd_da, ne49, n_cc_sa, n_cc_da, ne32, ne33, ne38, ne39, ne40⟩ (own_selP rfl rfl rfl rfl) (own_selS rfl rfl rfl rfl) f60 f62 f63 gg_dd gg_cc
  · exact own_n3 cnt sb pb (own_sel ((sb &&& (3 : Int32)) - (1 : Int32)) (((sb >>> ((2 : Int32) &&& 31)) &&& (3 : Int32)) - (1 : Int32)) (((sb >>> ((4 : Int32) &&& 31)) &&& (3 : Int32)) - (1 : Int32)) (((sb >>> ((6 : Int32) &&& 31)) &&& (3 : Int32)) - (1 : Int32))) (own_sel (pb.toInt8.toInt32) ((pb >>> ((8 : Int32) &&& 31)).toInt8.toInt32) ((pb >>> ((16 : Int32) &&& 31)).toInt8.toInt32) ((pb >>> ((24 : Int32) &&& 31)).toInt8.toInt32)) ob sa da pa ss dd cc fd fs (ownSet (ownSet (ownSet (ownSet (fun _ => (defaultValue .int)) 0 (.int (pb.toInt8.toInt32))) 1 (.int ((pb >>> ((8 : Int32) &&& 31)).toInt8.toInt32))) 2 (.int ((pb >>> ((16 : Int32) &&& 31)).toInt8.toInt32))) 3 (.int ((pb >>> ((24 : Int32) &&& 31)).toInt8.toInt32))) (ownSet (ownSet (ownSet (ownSet (fun _ => (defaultValue .double)) 0 (.double (FP.i2d ((sb &&& (3 : Int32)) - (1 : Int32))))) 1 (.double (FP.i2d (((sb >>> ((2 : Int32) &&& 31)) &&& (3 : Int32)) - (1 : Int32))))) 2 (.double (FP.i2d (((sb >>> ((4 : Int32) &&& 31)) &&& (3 : Int32)) - (1 : Int32))))) 3 (.double (FP.i2d (((sb >>> ((6 : Int32) &&& 31)) &&& (3 : Int32)) - (1 : Int32))))) X59 hx hby hml hret hlk hown hnm hZ hw (rfl : T59.heap = T59.heap) N59 sz59 ⟨S59.1, S59.2.1, S59.2.2.1, S59.2.2.2.1, S59.2.2.2.2.1, S59.2.2.2.2.2.1, S59.2.2.2.2.2.2.1, S59.2.2.2.2.2.2.2.1, S59.2.2.2.2.2.2.2.2⟩ ⟨gg_ob, gsa, gda, n_ob_sa, n_ob_da, (Ne.symm ne47), nsd, (Ne.symm n_pa_sa), (Ne.symm n_pa_da)⟩ ⟨ne46, n_ss_sa, n_ss_da, ne48, n_dd_sa, n_dd_da, ne49, n_cc_sa, n_cc_da, ne32, ne33, ne38, ne39, ne40⟩ (own_selP rfl rfl rfl rfl) (own_selS rfl rfl rfl rfl) f60 f62 f63 gg_dd gg_cc
  · exact own_n4 cnt sb pb (own_sel ((sb &&& (3 : Int32)) - (1 : Int32)) (((sb >>> ((2 : Int32) &&& 31)) &&& (3 : Int32)) - (1 : Int32)) (((sb >>> ((4 : Int32) &&& 31)) &&& (3 : Int32)) - (1 : Int32)) (((sb >>> ((6 : Int32) &&& 31)) &&& (3 : Int32)) - (1 : Int32))) (own_sel (pb.toInt8.toInt32) ((pb >>> ((8 : Int32) &&& 31)).toInt8.toInt32) ((pb >>> ((16 : Int32) &&& 31)).toInt8.toInt32) ((pb >>> ((24 : Int32) &&& 31)).toInt8.toInt32)) ob sa da pa ss dd cc fd fs (ownSet (ownSet (ownSet (ownSet (fun _ => (defaultValue .int)) 0 (.int (pb.toInt8.toInt32))) 1 (.int ((pb >>> ((8 : Int32) &&& 31)).toInt8.toInt32))) 2 (.int ((pb >>> ((16 : Int32) &&& 31)).toInt8.toInt32))) 3 (.int ((pb >>> ((24 : Int32) &&& 31)).toInt8.toInt32))) (ownSet (ownSet (ownSet (ownSet (fun _ => (defaultValue .double)) 0 (.double (FP.i2d ((sb &&& (3 : Int32)) - (1 : Int32))))) 1 (.double (FP.i2d (((sb >>> ((2 : Int32) &&& 31)) &&& (3 : Int32)) - (1 : Int32))))) 2 (.double (FP.i2d (((sb >>> ((4 : Int32) &&& 31)) &&& (3 : Int32)) - (1 : Int32))))) 3 (.double (FP.i2d (((sb >>> ((6 : Int32) &&& 31)) &&& (3 : Int32)) - (1 : Int32))))) X59 hx hby hml hret hlk hown hnm hZ hw (rfl : T59.heap = T59.heap) N59 sz59 ⟨S59.1, S59.2.1, S59.2.2.1, S59.2.2.2.1, S59.2.2.2.2.1, S59.2.2.2.2.2.1, S59.2.2.2.2.2.2.1, S59.2.2.2.2.2.2.2.1, S59.2.2.2.2.2.2.2.2⟩ ⟨gg_ob, gsa, gda, n_ob_sa, n_ob_da, (Ne.symm ne47), nsd, (Ne.symm n_pa_sa), (Ne.symm n_pa_da)⟩ ⟨ne46, n_ss_sa, n_ss_da, ne48, n_dd_sa, n_dd_da, ne49, n_cc_sa, n_cc_da, ne32, ne33, ne38, ne39, ne40⟩ (own_selP rfl rfl rfl rfl) (own_selS rfl rfl rfl rfl) f60 f62 f63 gg_dd gg_cc
set_option maxRecDepth 65536 in
set_option maxHeartbeats 40000000 in
theorem comes_1 {Post : Tables → Env → Array Value → State → Outcome → State → Prop} (hpost : ∀ tb e args s v u, (limb_1_1.after args s (.returned v) u = true ∧ limb_1_2.after args s (.returned v) u = true ∧ True) → FrameEnd s (.returned v) u (Jvm.fieldLocs frame_1_writes args s ++ Jvm.arrayLocs frame_1_arrays args s ++ Jvm.staticLocs frame_1_statics s) 24 192 → Post tb e args s (.returned v) u) :
    ArmFor flags0 classFile x code maxLocals ret World_1 tables_1 room_1 Calls_1 rest_1 Pre_1 Post := by
  intro l hfl _ _ p e ha hc hk s m args below hf hA hF happ hP
  obtain ⟨hcalls, hrest, hpre⟩ := hP
  obtain ⟨-, -, -, hnamed, -, -, -, hat⟩ := (Spec.applies_iff hf).mp happ
  obtain ⟨hg, hn⟩ := and_e (Cond.before_iff.mp (show (Jvm.Cond.and given_1 narrow_1).before args s = true from hpre))
  obtain ⟨gc, gr0⟩ := and_e hg
  obtain ⟨ga0, gr1⟩ := and_e gr0
  obtain ⟨ga1, gr2⟩ := and_e gr1
  obtain ⟨w0, w1, w2, rfl⟩ : ∃ w0 w1 w2 : Value, args = #[w0, w1, w2] := by
    have hs : args.size = 3 := by simpa [Cond.value, given_1] using gc
    obtain ⟨L⟩ := args
    match L, hs with
    | [w0, w1, w2], _ => exact ⟨w0, w1, w2, rfl⟩
  have hw := fun d (hd : d ∈ tables_1) => atoms_spec (ws := Jvm.Cond.code x code maxLocals ret :: tables_1) hat d (List.mem_cons_of_mem _ hd)
  obtain ⟨i0, ei0⟩ := is_v ga0
  obtain rfl : w0 = (.int i0) := Option.some.inj ei0
  obtain ⟨i1, ei1⟩ := is_v ga1
  obtain rfl : w1 = (.int i1) := Option.some.inj ei1
  obtain ⟨i2, ei2⟩ := is_v gr2
  obtain rfl : w2 = (.int i2) := Option.some.inj ei2
  obtain ⟨n, o, h1, h2, h3, _, L, rfl, ⟨rfl, N⟩, hq⟩ := rm0 l s _ hw tables_1 i0 i1 i2 s.heap s.heap.size (Nat.le_refl _) p e ha hc hk s m _ below hf ((Spec.applies_iff_loose hf).mp happ).1 ⟨rfl, State.Warmed39.refl s, rfl⟩ trivial
  refine ⟨n, _, h1, h2, h3, hpost _ _ _ _ _ _ ⟨Cond.after_iff.mpr rfl, Cond.after_iff.mpr (eq_i res_at (Term.int_eval (1)) rfl), trivial⟩ ⟨hq.1, hq.2.1, (hq.2.2.sift fun y hy => Or.inr (N y hy)).mono (by decide) (by decide)⟩⟩
theorem main_1_1 : Claimed_1_1 := comes_1 fun _ _ _ _ _ _ h hF => ⟨h.1, hF⟩
theorem main_1_2 : Claimed_1_2 := comes_1 fun _ _ _ _ _ _ h hF => ⟨h.2.1, hF⟩
end Jvm.Pilot.@@N@@
namespace Jvm.Pilot.@@N@@
open Jvm Jvm.ClassFile Sem Op Lib Jvm.Free Jvm.Stand Jvm.Pilot.@@N@@.Jvm.D
/-! MADE BY PROGRAM (witnessworld.py) out of the Statement's table words and the real class files: 11 classes; the members and pool entries that the words name. The judged class is class 1, her method 5. -/
namespace start1
open Jvm.ClassFile
def u (s : String) : CpInfo := .utf8 (stringToUtf16 s)
/-- a pool by its gaps: so many unusable entries, then the entry; so many at the end -/
def gap : Nat → List CpInfo → List CpInfo
  | 0, r => r
  | n + 1, r => .unusable :: gap n r
def poolList (es : List (Nat × CpInfo)) (last : Nat) : List CpInfo := es.foldr (fun e r => gap e.1 (e.2 :: r)) (gap last [])
def pool (es : List (Nat × CpInfo)) (last : Nat) : Array CpInfo := ⟨poolList es last⟩
def fileOf (pool : Array CpInfo) (this : Nat) (attrs : Array Attribute := #[]) (ms : Array MethodInfo := #[]) (fl : Nat := 33) (sup : Nat := 0) (ifs : Array Nat := #[]) (fds : Array FieldInfo := #[]) : ClassFile where
  minorVersion := 0
  majorVersion := 65
  constantPool := pool
  accessFlags := fl
  thisClass := this
  superClass := sup
  interfaces := ifs
  fields := fds
  methods := ms
  attributes := attrs
def plain (name : String) (sup : Option ClassId) : Class where
  name := name
  kind := .ordinary
  loader := none
  accessFlags := 33
  super := sup
  interfaces := #[]
  cf := none
  fields := #[]
  methods := #[]
  instanceTypes := #[]
  staticTypes := #[]
  resolved := #[]
  callSites := []
  init := .initialized
  statics := none
  mirror := none

def pool0 : Array CpInfo := pool [(5, u "<init>"), (0, u "()V"), (1, .class_ 10), (1, u "java/lang/Object")] 113

def k0c0 : Code := { maxStack := 0, maxLocals := 1, code := object_method_1_code, exceptionTable := #[], attributes := #[] }
def k0m0 : Method := { name := "<init>", desc := "()V", sig := { parameters := [], returnType := none }, accessFlags := 1, code := some k0c0 }
/-- java/lang/Object -/
def k0 : Class := { plain "java/lang/Object" none with
  accessFlags := 33
  interfaces := #[]
  cf := some (fileOf pool0 8 #[] #[{ accessFlags := 1, nameIndex := 5, descriptorIndex := 6, attributes := #[] }] 33 0 #[] #[])
  fields := #[]
  methods := #[k0m0]
  instanceTypes := #[]
  staticTypes := #[]
  resolved := Array.replicate 124 none
  statics := none }

def pool1 : Array CpInfo := pool [(2, .class_ 4), (1, u "java/lang/Object"), (0, u "<init>"), (0, u "()V"), (0, .methodref 8 9), (0, .class_ 10), (0, .nameAndType 11 12), (0, u "com/example/etsinta/etsinta/search/BestRankPinLaw"), (0, u "worse"), (0, u "([IIDID)Z"), (0, .integer 2147483647), (0, .class_ 15), (0, u "com/example/etsinta/etsinta/search/Best"), (0, .methodref 14 17), (0, .nameAndType 5 18), (0, u "(I[I)V"), (0, .methodref 14 20), (0, .nameAndType 21 22), (0, u "offer"), (0, u "(ID)V"), (0, .methodref 14 24), (0, .nameAndType 25 6), (0, u "rank"), (0, .methodref 14 27), (0, .nameAndType 28 29), (0, u "size"), (0, u "()I"), (0, .methodref 14 31), (0, .nameAndType 32 33), (0, u "document"), (0, u "(I)I"), (0, .methodref 14 35), (0, .nameAndType 36 37), (0, u "score"), (0, u "(I)D"), (0, .methodref 8 39), (0, .nameAndType 40 41), (0, u "entryOk"), (0, u "([I[D[DII)Z"), (0, .methodref 8 43), (0, .nameAndType 44 45), (0, u "bit"), (0, u "([III)I"), (0, .methodref 8 47), (0, .nameAndType 48 49), (0, u "ordered"), (0, u "([I[I[DII)Z"), (3, u "law"), (0, u "(III)Z")] 6

def k1m0 : Method := { name := "<init>", desc := "()V", sig := { parameters := [], returnType := none }, accessFlags := 1, code := none }
def k1c1 : Code := { maxStack := 4, maxLocals := 7, code := method_2_code, exceptionTable := #[], attributes := #[] }
def k1m1 : Method := { name := "worse", desc := "([IIDID)Z", sig := { parameters := [(.array .int), .int, .double, .int, .double], returnType := some .boolean }, accessFlags := 10, code := some k1c1 }
def k1c2 : Code := { maxStack := 4, maxLocals := 6, code := method_3_code, exceptionTable := #[], attributes := #[] }
def k1m2 : Method := { name := "entryOk", desc := "([I[D[DII)Z", sig := { parameters := [(.array .int), (.array .double), (.array .double), .int, .int], returnType := some .boolean }, accessFlags := 10, code := some k1c2 }
def k1c3 : Code := { maxStack := 3, maxLocals := 3, code := method_4_code, exceptionTable := #[], attributes := #[] }
def k1m3 : Method := { name := "bit", desc := "([III)I", sig := { parameters := [(.array .int), .int, .int], returnType := some .int }, accessFlags := 10, code := some k1c3 }
def k1c4 : Code := { maxStack := 8, maxLocals := 5, code := method_5_code, exceptionTable := #[], attributes := #[] }
def k1m4 : Method := { name := "ordered", desc := "([I[I[DII)Z", sig := { parameters := [(.array .int), (.array .int), (.array .double), .int, .int], returnType := some .boolean }, accessFlags := 10, code := some k1c4 }
def k1c5 : Code := { maxStack := 5, maxLocals := 11, code := code, exceptionTable := #[], attributes := #[] }
def k1m5 : Method := { name := "law", desc := "(III)Z", sig := { parameters := [.int, .int, .int], returnType := some .boolean }, accessFlags := 9, code := some k1c5 }
/-- com/example/etsinta/etsinta/search/BestRankPinLaw -/
def k1 : Class := { plain "com/example/etsinta/etsinta/search/BestRankPinLaw" (some 0) with
  accessFlags := 49
  interfaces := #[]
  cf := some (fileOf pool1 8 #[] #[{ accessFlags := 1, nameIndex := 5, descriptorIndex := 6, attributes := #[] }, { accessFlags := 10, nameIndex := 11, descriptorIndex := 12, attributes := #[] }, { accessFlags := 10, nameIndex := 40, descriptorIndex := 41, attributes := #[] }, { accessFlags := 10, nameIndex := 44, descriptorIndex := 45, attributes := #[] }, { accessFlags := 10, nameIndex := 48, descriptorIndex := 49, attributes := #[] }, { accessFlags := 9, nameIndex := 53, descriptorIndex := 54, attributes := #[] }] 49 2 #[] #[])
  fields := #[]
  methods := #[k1m0, k1m1, k1m2, k1m3, k1m4, k1m5]
  instanceTypes := #[]
  staticTypes := #[]
  resolved := Array.replicate 61 none
  statics := none }

def pool2 : Array CpInfo := pool [(1, .methodref 2 3), (0, .class_ 4), (0, .nameAndType 5 6), (0, u "java/lang/Object"), (0, u "<init>"), (0, u "()V"), (0, .fieldref 8 9), (0, .class_ 10), (0, .nameAndType 11 12), (0, u "com/example/etsinta/etsinta/search/Best"), (0, u "scores"), (0, u "[D"), (0, .fieldref 8 14), (0, .nameAndType 15 16), (0, u "documents"), (0, u "[I"), (0, .fieldref 8 18), (0, .nameAndType 19 20), (0, u "depth"), (0, u "I"), (0, .fieldref 8 22), (0, .nameAndType 23 16), (0, u "docnoPlaces"), (5, u "()I"), (11, .class_ 43), (1, u "java/util/Objects"), (30, .fieldref 8 75), (0, .nameAndType 76 20), (0, u "size"), (0, .long 2), (16, .methodref 8 95), (0, .nameAndType 96 97), (0, u "siftUp"), (0, u "(IID)V"), (0, .methodref 8 99), (0, .nameAndType 100 101), (0, u "worse"), (0, u "(IDID)Z"), (0, .methodref 8 103), (0, .nameAndType 104 105), (0, u "siftDown"), (0, u "(ID)V"), (0, .methodref 41 107), (0, .nameAndType 108 109), (0, u "checkIndex"), (0, u "(II)I"), (0, u "(I[I)V"), (5, u "offer"), (0, u "rank"), (0, u "document"), (0, u "(I)I"), (0, u "score"), (0, u "(I)D")] 34

def k2c0 : Code := { maxStack := 2, maxLocals := 3, code := prog_26_method_1_code, exceptionTable := #[], attributes := #[] }
def k2m0 : Method := { name := "<init>", desc := "(I[I)V", sig := { parameters := [.int, (.array .int)], returnType := none }, accessFlags := 0, code := some k2c0 }
def k2c1 : Code := { maxStack := 8, maxLocals := 4, code := prog_26_method_3_code, exceptionTable := #[], attributes := #[] }
def k2m1 : Method := { name := "offer", desc := "(ID)V", sig := { parameters := [.int, .double], returnType := none }, accessFlags := 0, code := some k2c1 }
def k2c2 : Code := { maxStack := 1, maxLocals := 1, code := prog_26_method_4_code, exceptionTable := #[], attributes := #[] }
def k2m2 : Method := { name := "size", desc := "()I", sig := { parameters := [], returnType := some .int }, accessFlags := 0, code := some k2c2 }
def k2c3 : Code := { maxStack := 4, maxLocals := 6, code := prog_26_method_5_code, exceptionTable := #[], attributes := #[] }
def k2m3 : Method := { name := "rank", desc := "()V", sig := { parameters := [], returnType := none }, accessFlags := 0, code := some k2c3 }
def k2c4 : Code := { maxStack := 3, maxLocals := 2, code := prog_26_method_6_code, exceptionTable := #[], attributes := #[] }
def k2m4 : Method := { name := "document", desc := "(I)I", sig := { parameters := [.int], returnType := some .int }, accessFlags := 0, code := some k2c4 }
def k2c5 : Code := { maxStack := 3, maxLocals := 2, code := prog_26_method_7_code, exceptionTable := #[], attributes := #[] }
def k2m5 : Method := { name := "score", desc := "(I)D", sig := { parameters := [.int], returnType := some .double }, accessFlags := 0, code := some k2c5 }
def k2c6 : Code := { maxStack := 4, maxLocals := 7, code := prog_26_method_8_code, exceptionTable := #[], attributes := #[] }
def k2m6 : Method := { name := "worse", desc := "(IDID)Z", sig := { parameters := [.int, .double, .int, .double], returnType := some .boolean }, accessFlags := 2, code := some k2c6 }
def k2c7 : Code := { maxStack := 8, maxLocals := 7, code := prog_26_method_9_code, exceptionTable := #[], attributes := #[] }
def k2m7 : Method := { name := "siftUp", desc := "(IID)V", sig := { parameters := [.int, .int, .double], returnType := none }, accessFlags := 2, code := some k2c7 }
def k2c8 : Code := { maxStack := 7, maxLocals := 6, code := prog_26_method_10_code, exceptionTable := #[], attributes := #[] }
def k2m8 : Method := { name := "siftDown", desc := "(ID)V", sig := { parameters := [.int, .double], returnType := none }, accessFlags := 2, code := some k2c8 }
/-- com/example/etsinta/etsinta/search/Best -/
def k2 : Class := { plain "com/example/etsinta/etsinta/search/Best" (some 0) with
  accessFlags := 32
  interfaces := #[]
  cf := some (fileOf pool2 8 #[] #[{ accessFlags := 0, nameIndex := 5, descriptorIndex := 110, attributes := #[] }, { accessFlags := 0, nameIndex := 116, descriptorIndex := 105, attributes := #[] }, { accessFlags := 0, nameIndex := 76, descriptorIndex := 29, attributes := #[] }, { accessFlags := 0, nameIndex := 117, descriptorIndex := 6, attributes := #[] }, { accessFlags := 0, nameIndex := 118, descriptorIndex := 119, attributes := #[] }, { accessFlags := 0, nameIndex := 120, descriptorIndex := 121, attributes := #[] }, { accessFlags := 2, nameIndex := 100, descriptorIndex := 101, attributes := #[] }, { accessFlags := 2, nameIndex := 96, descriptorIndex := 97, attributes := #[] }, { accessFlags := 2, nameIndex := 104, descriptorIndex := 105, attributes := #[] }] 32 2 #[] #[{ accessFlags := 18, nameIndex := 19, descriptorIndex := 20, attributes := #[] }, { accessFlags := 18, nameIndex := 23, descriptorIndex := 16, attributes := #[] }, { accessFlags := 2, nameIndex := 11, descriptorIndex := 12, attributes := #[] }, { accessFlags := 2, nameIndex := 15, descriptorIndex := 16, attributes := #[] }, { accessFlags := 2, nameIndex := 76, descriptorIndex := 20, attributes := #[] }])
  fields := #[{ name := "depth", type := .int, accessFlags := 18, slot := 0, constantValue := 0 }, { name := "docnoPlaces", type := (.array .int), accessFlags := 18, slot := 1, constantValue := 0 }, { name := "scores", type := (.array .double), accessFlags := 2, slot := 2, constantValue := 0 }, { name := "documents", type := (.array .int), accessFlags := 2, slot := 3, constantValue := 0 }, { name := "size", type := .int, accessFlags := 2, slot := 4, constantValue := 0 }]
  methods := #[k2m0, k2m1, k2m2, k2m3, k2m4, k2m5, k2m6, k2m7, k2m8]
  instanceTypes := #[.int, (.array .int), (.array .double), (.array .int), .int]
  staticTypes := #[]
  resolved := Array.replicate 156 none
  statics := none }

def pool3 : Array CpInfo := pool [(2, .class_ 4), (1, u "java/lang/Object"), (0, u "<init>"), (0, u "()V"), (35, .class_ 44), (1, u "java/util/Objects"), (60, .methodref 106 107), (0, .class_ 108), (0, .nameAndType 109 110), (0, u "jdk/internal/util/Preconditions"), (0, u "checkIndex"), (0, u "(IILjava/util/function/BiFunction;)I"), (60, u "(II)I")] 12

def k3m0 : Method := { name := "<init>", desc := "()V", sig := { parameters := [], returnType := none }, accessFlags := 2, code := none }
def k3c1 : Code := { maxStack := 3, maxLocals := 2, code := jdk_31_method_17_code, exceptionTable := #[], attributes := #[] }
def k3m1 : Method := { name := "checkIndex", desc := "(II)I", sig := { parameters := [.int, .int], returnType := some .int }, accessFlags := 9, code := some k3c1 }
/-- java/util/Objects -/
def k3 : Class := { plain "java/util/Objects" (some 0) with
  accessFlags := 49
  interfaces := #[]
  cf := some (fileOf pool3 42 #[] #[{ accessFlags := 2, nameIndex := 5, descriptorIndex := 6, attributes := #[] }, { accessFlags := 9, nameIndex := 109, descriptorIndex := 171, attributes := #[] }] 49 2 #[] #[])
  fields := #[]
  methods := #[k3m0, k3m1]
  instanceTypes := #[]
  staticTypes := #[]
  resolved := Array.replicate 184 none
  statics := none }

def pool4 : Array CpInfo := pool [(2, .class_ 4), (1, u "java/lang/Object"), (0, u "<init>"), (0, u "()V"), (17, .class_ 26), (1, u "jdk/internal/util/Preconditions"), (6, u "checkIndex"), (21, .class_ 56), (0, u "jdk/internal/util/Preconditions$4"), (57, .class_ 115), (0, u "jdk/internal/util/Preconditions$1"), (7, u "SIOOBE_FORMATTER"), (0, u "Ljava/util/function/BiFunction;"), (0, .class_ 126), (0, u "jdk/internal/util/Preconditions$2"), (3, u "AIOOBE_FORMATTER"), (0, .class_ 132), (0, u "jdk/internal/util/Preconditions$3"), (3, u "IOOBE_FORMATTER"), (41, u "(IILjava/util/function/BiFunction;)I")] 15

def k4m0 : Method := { name := "<init>", desc := "()V", sig := { parameters := [], returnType := none }, accessFlags := 1, code := none }
def k4c1 : Code := { maxStack := 3, maxLocals := 3, code := jdk_41_method_11_code, exceptionTable := #[], attributes := #[] }
def k4m1 : Method := { name := "checkIndex", desc := "(IILjava/util/function/BiFunction;)I", sig := { parameters := [.int, .int, (.object "java/util/function/BiFunction")], returnType := some .int }, accessFlags := 9, code := some k4c1 }
/-- jdk/internal/util/Preconditions -/
def k4 : Class := { plain "jdk/internal/util/Preconditions" (some 0) with
  accessFlags := 33
  interfaces := #[]
  cf := some (fileOf pool4 24 #[.nestMembers #[55, 131, 125, 114]] #[{ accessFlags := 1, nameIndex := 5, descriptorIndex := 6, attributes := #[] }, { accessFlags := 9, nameIndex := 33, descriptorIndex := 178, attributes := #[] }] 33 2 #[] #[{ accessFlags := 25, nameIndex := 123, descriptorIndex := 124, attributes := #[] }, { accessFlags := 25, nameIndex := 130, descriptorIndex := 124, attributes := #[] }, { accessFlags := 25, nameIndex := 136, descriptorIndex := 124, attributes := #[] }])
  fields := #[{ name := "SIOOBE_FORMATTER", type := (.object "java/util/function/BiFunction"), accessFlags := 25, slot := 0, constantValue := 0 }, { name := "AIOOBE_FORMATTER", type := (.object "java/util/function/BiFunction"), accessFlags := 25, slot := 1, constantValue := 0 }, { name := "IOOBE_FORMATTER", type := (.object "java/util/function/BiFunction"), accessFlags := 25, slot := 2, constantValue := 0 }]
  methods := #[k4m0, k4m1]
  instanceTypes := #[]
  staticTypes := #[(.object "java/util/function/BiFunction"), (.object "java/util/function/BiFunction"), (.object "java/util/function/BiFunction")]
  resolved := Array.replicate 194 none
  statics := none }

def pool5 : Array CpInfo := pool [(1, u "java/lang/Cloneable"), (0, .class_ 1), (0, u "java/lang/Object"), (0, .class_ 3)] 3

/-- java/lang/Cloneable -/
def k5 : Class := { plain "java/lang/Cloneable" (some 0) with
  accessFlags := 1537
  interfaces := #[]
  cf := some (fileOf pool5 2 #[] #[] 1537 4 #[] #[])
  fields := #[]
  methods := #[]
  instanceTypes := #[]
  staticTypes := #[]
  resolved := Array.replicate 8 none
  statics := none }

def pool6 : Array CpInfo := pool [(1, u "java/io/Serializable"), (0, .class_ 1), (0, u "java/lang/Object"), (0, .class_ 3)] 3

/-- java/io/Serializable -/
def k6 : Class := { plain "java/io/Serializable" (some 0) with
  accessFlags := 1537
  interfaces := #[]
  cf := some (fileOf pool6 2 #[] #[] 1537 4 #[] #[])
  fields := #[]
  methods := #[]
  instanceTypes := #[]
  staticTypes := #[]
  resolved := Array.replicate 8 none
  statics := none }

/-- the primitive byte -/
def k7 : Class := { plain "byte" none with kind := .primitive 'B', accessFlags := 0x411 }
/-- [B -/
def k8 : Class := { plain "[B" (some 0) with kind := .array 7 .byte, interfaces := #[5, 6], accessFlags := 1041 }

/-- the primitive int -/
def k9 : Class := { plain "int" none with kind := .primitive 'I', accessFlags := 0x411 }
/-- [I -/
def k10 : Class := { plain "[I" (some 0) with kind := .array 9 .int, interfaces := #[5, 6], accessFlags := 1041 }

def k11 : Class := { plain "double" none with kind := .primitive 'D', accessFlags := 0x411 }
def k12 : Class := { plain "[D" (some 0) with kind := .array 11 .double, interfaces := #[5, 6], accessFlags := 1041 }
def heap : Heap := #[]
def classes : Array Class := #[k0, k1, k2, k3, k4, k5, k6, k7, k8, k9, k10, k11, k12]
def interned : List (Array UInt16 × Addr) := []
def slotsUsed : Nat := 0
def theMethod : MethodId := ⟨1, 5⟩
def args0 : Array Value := #[.int 4, .int 27, .int 77]
def aboutOver (below : List Frame) : State where
  vm := { classes := classes, interned := interned.toArray }
  heap := heap
  slotsUsed := slotsUsed
  threads := #[{ frames := .invoking theMethod args0 :: below }]
def below0 : List Frame := [.native { method := ⟨0, 0⟩, args := #[] }]
def about1 : State := aboutOver below0
def p0 : Program := .bare "" "" ""
def e0 : Env := launch0.env 0 0 0
theorem w_frames : about1.frames = Frame.invoking theMethod args0 :: below0 := rfl
set_option maxRecDepth 65536 in
theorem w_args : argsFit about1.vm theMethod args0 = true := by decide +kernel
set_option maxRecDepth 65536 in
theorem w_heap : heapFits about1 = true := by decide +kernel
set_option maxRecDepth 65536 in
theorem w_runnable : about1.curStatus? = some .runnable := by decide +kernel
set_option maxRecDepth 65536 in
theorem w_alone : about1.alone = true := by decide +kernel
set_option maxRecDepth 65536 in
theorem w_named : about1.methodNamed? x = some theMethod := by decide +kernel
set_option maxRecDepth 65536 in
theorem w_hears : about1.hears theMethod below0 = true := by decide +kernel
set_option maxRecDepth 65536 in
theorem w_ripe : about1.ripe theMethod args0 below0 = true := by decide +kernel
theorem w_running : about1.status = .running := rfl
set_option maxRecDepth 65536 in
theorem w_room : about1.hasRoom e0.platform room_1 = true :=
  launch0.hasRoom_least _ room_1 (by decide +kernel) (by decide +kernel) (by decide +kernel) (by decide +kernel) (by decide +kernel) (by decide +kernel)
theorem allAtoms_all (ts : List Jvm.Cond) (a : Array Jvm.Value) (st : Jvm.State) : (allAtoms ts).before a st = ts.all (fun c => c.before a st) := by
  induction ts with
  | nil => rfl
  | cons c t ih =>
    show (Jvm.Cond.and c (allAtoms t)).before a st = _
    rw [Jvm.Cond.before_and, ih, List.all_cons]
def words1 : List Jvm.Cond := Jvm.Cond.code x code maxLocals ret :: tables_1
/-- a 'code' word, met by the world's own term for the bytes: nothing is compared byte by byte -/
theorem code_word {y : MethodName} {bytes : ByteArray} {mx : Nat} {rt : Option FieldType} {a : Array Value} {s : State} {m : MethodId} {meth : Method} {c : Code} (h1 : s.methodNamed? y = some m) (h2 : s.vm.method? m = some meth) (h3 : meth.code = some c) (h4 : c.code = bytes)
    (h5 : (c.maxLocals == mx && c.exceptionTable.isEmpty && decide (c.maxStack ≤ mostOperands) && decide (meth.sig.returnType = rt) && !meth.locks && decide (parseMethodDescriptor y.desc = some meth.sig)) = true) : (Jvm.Cond.code y bytes mx rt).before a s = true := by
  simp only [Bool.and_eq_true, beq_iff_eq, Bool.not_eq_true', decide_eq_true_eq] at h5
  obtain ⟨⟨⟨⟨⟨g1, g2⟩, g3⟩, g4⟩, g5⟩, g6⟩ := h5
  simp [Cond.before, Cond.holds, Cond.value, h1, h2, h3, h4, g1, g2, g3, g4, g5, g6]
def isCode : Jvm.Cond → Bool
  | .code _ _ _ _ => true
  | _ => false
theorem all_split {L : List Jvm.Cond} {P : Jvm.Cond → Bool} (h1 : L.all (fun c => isCode c || P c) = true) (h2 : ∀ c ∈ L.filter isCode, P c = true) : L.all P = true := by
  refine List.all_eq_true.mpr fun c hc => ?_
  have h := List.all_eq_true.mp h1 c hc
  rcases Bool.eq_false_or_eq_true (isCode c) with hi | hi
  · exact h2 c (List.mem_filter.mpr ⟨hc, hi⟩)
  · simpa [hi] using h
set_option maxRecDepth 65536 in
theorem w_c0 : (Jvm.Cond.code x code maxLocals ret).before args0 about1 = true := code_word (m := ⟨1, 5⟩) (meth := k1m5) (c := k1c5) (by decide +kernel) rfl rfl rfl (by decide +kernel)
set_option maxRecDepth 65536 in
theorem w_c1 : (Jvm.Cond.code ({ cls := "com/example/etsinta/etsinta/search/Best", name := "<init>", desc := "(I[I)V" } : Jvm.MethodName) prog_26_method_1_code (3 : Nat) (Option.none : Option Jvm.ClassFile.FieldType)).before args0 about1 = true := code_word (m := ⟨2, 0⟩) (meth := k2m0) (c := k2c0) (by decide +kernel) rfl rfl rfl (by decide +kernel)
set_option maxRecDepth 65536 in
theorem w_c2 : (Jvm.Cond.code ({ cls := "java/lang/Object", name := "<init>", desc := "()V" } : Jvm.MethodName) object_method_1_code (1 : Nat) (Option.none : Option Jvm.ClassFile.FieldType)).before args0 about1 = true := code_word (m := ⟨0, 0⟩) (meth := k0m0) (c := k0c0) (by decide +kernel) rfl rfl rfl (by decide +kernel)
set_option maxRecDepth 65536 in
theorem w_c3 : (Jvm.Cond.code ({ cls := "com/example/etsinta/etsinta/search/Best", name := "rank", desc := "()V" } : Jvm.MethodName) prog_26_method_5_code (6 : Nat) (Option.none : Option Jvm.ClassFile.FieldType)).before args0 about1 = true := code_word (m := ⟨2, 3⟩) (meth := k2m3) (c := k2c3) (by decide +kernel) rfl rfl rfl (by decide +kernel)
set_option maxRecDepth 65536 in
theorem w_c4 : (Jvm.Cond.code ({ cls := "com/example/etsinta/etsinta/search/Best", name := "size", desc := "()I" } : Jvm.MethodName) prog_26_method_4_code (1 : Nat) (Option.some Jvm.ClassFile.FieldType.int)).before args0 about1 = true := code_word (m := ⟨2, 2⟩) (meth := k2m2) (c := k2c2) (by decide +kernel) rfl rfl rfl (by decide +kernel)
set_option maxRecDepth 65536 in
theorem w_c5 : (Jvm.Cond.code ({ cls := "com/example/etsinta/etsinta/search/BestRankPinLaw", name := "entryOk", desc := "([I[D[DII)Z" } : Jvm.MethodName) method_3_code (6 : Nat) (Option.some Jvm.ClassFile.FieldType.boolean)).before args0 about1 = true := code_word (m := ⟨1, 2⟩) (meth := k1m2) (c := k1c2) (by decide +kernel) rfl rfl rfl (by decide +kernel)
set_option maxRecDepth 65536 in
theorem w_c6 : (Jvm.Cond.code ({ cls := "com/example/etsinta/etsinta/search/BestRankPinLaw", name := "bit", desc := "([III)I" } : Jvm.MethodName) method_4_code (3 : Nat) (Option.some Jvm.ClassFile.FieldType.int)).before args0 about1 = true := code_word (m := ⟨1, 3⟩) (meth := k1m3) (c := k1c3) (by decide +kernel) rfl rfl rfl (by decide +kernel)
set_option maxRecDepth 65536 in
theorem w_c7 : (Jvm.Cond.code ({ cls := "com/example/etsinta/etsinta/search/BestRankPinLaw", name := "ordered", desc := "([I[I[DII)Z" } : Jvm.MethodName) method_5_code (5 : Nat) (Option.some Jvm.ClassFile.FieldType.boolean)).before args0 about1 = true := code_word (m := ⟨1, 4⟩) (meth := k1m4) (c := k1c4) (by decide +kernel) rfl rfl rfl (by decide +kernel)
set_option maxRecDepth 65536 in
theorem w_c8 : (Jvm.Cond.code ({ cls := "com/example/etsinta/etsinta/search/Best", name := "offer", desc := "(ID)V" } : Jvm.MethodName) prog_26_method_3_code (4 : Nat) (Option.none : Option Jvm.ClassFile.FieldType)).before args0 about1 = true := code_word (m := ⟨2, 1⟩) (meth := k2m1) (c := k2c1) (by decide +kernel) rfl rfl rfl (by decide +kernel)
set_option maxRecDepth 65536 in
theorem w_c9 : (Jvm.Cond.code ({ cls := "com/example/etsinta/etsinta/search/Best", name := "siftUp", desc := "(IID)V" } : Jvm.MethodName) prog_26_method_9_code (7 : Nat) (Option.none : Option Jvm.ClassFile.FieldType)).before args0 about1 = true := code_word (m := ⟨2, 7⟩) (meth := k2m7) (c := k2c7) (by decide +kernel) rfl rfl rfl (by decide +kernel)
set_option maxRecDepth 65536 in
theorem w_c10 : (Jvm.Cond.code ({ cls := "com/example/etsinta/etsinta/search/Best", name := "document", desc := "(I)I" } : Jvm.MethodName) prog_26_method_6_code (2 : Nat) (Option.some Jvm.ClassFile.FieldType.int)).before args0 about1 = true := code_word (m := ⟨2, 4⟩) (meth := k2m4) (c := k2c4) (by decide +kernel) rfl rfl rfl (by decide +kernel)
set_option maxRecDepth 65536 in
theorem w_c11 : (Jvm.Cond.code ({ cls := "java/util/Objects", name := "checkIndex", desc := "(II)I" } : Jvm.MethodName) jdk_31_method_17_code (2 : Nat) (Option.some Jvm.ClassFile.FieldType.int)).before args0 about1 = true := code_word (m := ⟨3, 1⟩) (meth := k3m1) (c := k3c1) (by decide +kernel) rfl rfl rfl (by decide +kernel)
set_option maxRecDepth 65536 in
theorem w_c12 : (Jvm.Cond.code ({ cls := "jdk/internal/util/Preconditions", name := "checkIndex", desc := "(IILjava/util/function/BiFunction;)I" } : Jvm.MethodName) jdk_41_method_11_code (3 : Nat) (Option.some Jvm.ClassFile.FieldType.int)).before args0 about1 = true := code_word (m := ⟨4, 1⟩) (meth := k4m1) (c := k4c1) (by decide +kernel) rfl rfl rfl (by decide +kernel)
set_option maxRecDepth 65536 in
theorem w_c13 : (Jvm.Cond.code ({ cls := "com/example/etsinta/etsinta/search/Best", name := "score", desc := "(I)D" } : Jvm.MethodName) prog_26_method_7_code (2 : Nat) (Option.some Jvm.ClassFile.FieldType.double)).before args0 about1 = true := code_word (m := ⟨2, 5⟩) (meth := k2m5) (c := k2c5) (by decide +kernel) rfl rfl rfl (by decide +kernel)
set_option maxRecDepth 65536 in
theorem w_c14 : (Jvm.Cond.code ({ cls := "com/example/etsinta/etsinta/search/Best", name := "worse", desc := "(IDID)Z" } : Jvm.MethodName) prog_26_method_8_code (7 : Nat) (Option.some Jvm.ClassFile.FieldType.boolean)).before args0 about1 = true := code_word (m := ⟨2, 6⟩) (meth := k2m6) (c := k2c6) (by decide +kernel) rfl rfl rfl (by decide +kernel)
set_option maxRecDepth 65536 in
theorem w_c15 : (Jvm.Cond.code ({ cls := "com/example/etsinta/etsinta/search/Best", name := "siftDown", desc := "(ID)V" } : Jvm.MethodName) prog_26_method_10_code (6 : Nat) (Option.none : Option Jvm.ClassFile.FieldType)).before args0 about1 = true := code_word (m := ⟨2, 8⟩) (meth := k2m8) (c := k2c8) (by decide +kernel) rfl rfl rfl (by decide +kernel)
set_option maxRecDepth 65536 in
theorem w_c16 : (Jvm.Cond.code ({ cls := "com/example/etsinta/etsinta/search/BestRankPinLaw", name := "worse", desc := "([IIDID)Z" } : Jvm.MethodName) method_2_code (7 : Nat) (Option.some Jvm.ClassFile.FieldType.boolean)).before args0 about1 = true := code_word (m := ⟨1, 1⟩) (meth := k1m1) (c := k1c1) (by decide +kernel) rfl rfl rfl (by decide +kernel)
def codes1 : List Jvm.Cond := [Jvm.Cond.code x code maxLocals ret, Jvm.Cond.code ({ cls := "com/example/etsinta/etsinta/search/Best", name := "<init>", desc := "(I[I)V" } : Jvm.MethodName) prog_26_method_1_code (3 : Nat) (Option.none : Option Jvm.ClassFile.FieldType), Jvm.Cond.code ({ cls := "java/lang/Object", name := "<init>", desc := "()V" } : Jvm.MethodName) object_method_1_code (1 : Nat) (Option.none : Option Jvm.ClassFile.FieldType), Jvm.Cond.code ({ cls := "com/example/etsinta/etsinta/search/Best", name := "rank", desc := "()V" } : Jvm.MethodName) prog_26_method_5_code (6 : Nat) (Option.none : Option Jvm.ClassFile.FieldType), Jvm.Cond.code ({ cls := "com/example/etsinta/etsinta/search/Best", name := "size", desc := "()I" } : Jvm.MethodName) prog_26_method_4_code (1 : Nat) (Option.some Jvm.ClassFile.FieldType.int), Jvm.Cond.code ({ cls := "com/example/etsinta/etsinta/search/BestRankPinLaw", name := "entryOk", desc := "([I[D[DII)Z" } : Jvm.MethodName) method_3_code (6 : Nat) (Option.some Jvm.ClassFile.FieldType.boolean), Jvm.Cond.code ({ cls := "com/example/etsinta/etsinta/search/BestRankPinLaw", name := "bit", desc := "([III)I" } : Jvm.MethodName) method_4_code (3 : Nat) (Option.some Jvm.ClassFile.FieldType.int), Jvm.Cond.code ({ cls := "com/example/etsinta/etsinta/search/BestRankPinLaw", name := "ordered", desc := "([I[I[DII)Z" } : Jvm.MethodName) method_5_code (5 : Nat) (Option.some Jvm.ClassFile.FieldType.boolean), Jvm.Cond.code ({ cls := "com/example/etsinta/etsinta/search/Best", name := "offer", desc := "(ID)V" } : Jvm.MethodName) prog_26_method_3_code (4 : Nat) (Option.none : Option Jvm.ClassFile.FieldType), Jvm.Cond.code ({ cls := "com/example/etsinta/etsinta/search/Best", name := "siftUp", desc := "(IID)V" } : Jvm.MethodName) prog_26_method_9_code (7 : Nat) (Option.none : Option Jvm.ClassFile.FieldType), Jvm.Cond.code ({ cls := "com/example/etsinta/etsinta/search/Best", name := "document", desc := "(I)I" } : Jvm.MethodName) prog_26_method_6_code (2 : Nat) (Option.some Jvm.ClassFile.FieldType.int), Jvm.Cond.code ({ cls := "java/util/Objects", name := "checkIndex", desc := "(II)I" } : Jvm.MethodName) jdk_31_method_17_code (2 : Nat) (Option.some Jvm.ClassFile.FieldType.int), Jvm.Cond.code ({ cls := "jdk/internal/util/Preconditions", name := "checkIndex", desc := "(IILjava/util/function/BiFunction;)I" } : Jvm.MethodName) jdk_41_method_11_code (3 : Nat) (Option.some Jvm.ClassFile.FieldType.int), Jvm.Cond.code ({ cls := "com/example/etsinta/etsinta/search/Best", name := "score", desc := "(I)D" } : Jvm.MethodName) prog_26_method_7_code (2 : Nat) (Option.some Jvm.ClassFile.FieldType.double), Jvm.Cond.code ({ cls := "com/example/etsinta/etsinta/search/Best", name := "worse", desc := "(IDID)Z" } : Jvm.MethodName) prog_26_method_8_code (7 : Nat) (Option.some Jvm.ClassFile.FieldType.boolean), Jvm.Cond.code ({ cls := "com/example/etsinta/etsinta/search/Best", name := "siftDown", desc := "(ID)V" } : Jvm.MethodName) prog_26_method_10_code (6 : Nat) (Option.none : Option Jvm.ClassFile.FieldType), Jvm.Cond.code ({ cls := "com/example/etsinta/etsinta/search/BestRankPinLaw", name := "worse", desc := "([IIDID)Z" } : Jvm.MethodName) method_2_code (7 : Nat) (Option.some Jvm.ClassFile.FieldType.boolean)]
set_option maxRecDepth 65536 in
theorem codes_eq : words1.filter isCode = codes1 := rfl
theorem w_codes : ∀ c ∈ words1.filter isCode, c.before args0 about1 = true := by
  rw [codes_eq]
  intro c hc
  simp only [codes1, List.mem_cons, List.not_mem_nil, or_false] at hc
  rcases hc with rfl | rfl | rfl | rfl | rfl | rfl | rfl | rfl | rfl | rfl | rfl | rfl | rfl | rfl | rfl | rfl | rfl
  · exact w_c0
  · exact w_c1
  · exact w_c2
  · exact w_c3
  · exact w_c4
  · exact w_c5
  · exact w_c6
  · exact w_c7
  · exact w_c8
  · exact w_c9
  · exact w_c10
  · exact w_c11
  · exact w_c12
  · exact w_c13
  · exact w_c14
  · exact w_c15
  · exact w_c16
set_option maxRecDepth 65536 in
theorem w_t1 : (words1.take 24).all (fun c => isCode c || c.before args0 about1) = true := by decide +kernel
set_option maxRecDepth 65536 in
theorem w_t2 : ((words1.drop 24).take 24).all (fun c => isCode c || c.before args0 about1) = true := by decide +kernel
set_option maxRecDepth 65536 in
theorem w_t3 : (((words1.drop 24).drop 24).take 24).all (fun c => isCode c || c.before args0 about1) = true := by decide +kernel
set_option maxRecDepth 65536 in
theorem w_t4 : (((words1.drop 24).drop 24).drop 24).all (fun c => isCode c || c.before args0 about1) = true := by decide +kernel
theorem w_tables : (allAtoms (Jvm.Cond.code x code maxLocals ret :: tables_1)).before args0 about1 = true := by
  rw [allAtoms_all]
  show words1.all (fun c => c.before args0 about1) = true
  refine all_split ?_ w_codes
  rw [← List.take_append_drop 24 words1, List.all_append, w_t1, ← List.take_append_drop 24 (words1.drop 24), List.all_append, w_t2, ← List.take_append_drop 24 ((words1.drop 24).drop 24), List.all_append, w_t3, w_t4]
  rfl
set_option maxRecDepth 65536 in
theorem w_case : (Jvm.Cond.and given_1 narrow_1).before args0 about1 = true := by decide +kernel
theorem w_applies : (headSpec (Jvm.Cond.code x code maxLocals ret :: tables_1) room_1).applies x e0.platform about1 = true :=
  (Spec.applies_iff w_frames).mpr ⟨w_running, w_runnable, w_alone, w_named, w_hears, w_ripe, w_room, w_tables⟩
theorem atStart : AtStart classFile x code maxLocals ret World_1 tables_1 room_1 Calls_1 rest_1 Pre_1 launch0 p0 e0 about1 theMethod args0 below0 :=
  ⟨lists_1, trivial, launch0.admits_env _ _ _, launch0.least_env, fairChoices_fair.cas, fairChoices_fair.clock, w_frames, w_args, w_heap, w_applies, trivial, trivial, w_case⟩
end start1
theorem witness_1 : WitnessClaimed_1 := ⟨start1.p0, start1.e0, start1.about1, start1.theMethod, start1.args0, start1.below0, start1.atStart⟩
end Jvm.Pilot.@@N@@
