import JvmDerived
import JvmDerived.Pilot.@@N@@Statement
import JvmDerived.Pilot.@@N@@Code
set_option linter.unusedVariables false
set_option linter.unusedSimpArgs false
namespace Jvm.RoadKit
open Sem ClassFile Op Lib Jvm.Stand Jvm.Free Jvm.LawKit
section OwnKit
variable {p : Program} {l : Launch} {e : Env} {R : Room} {s : State} {m : MethodId} {args : Array Value} {below : List Frame} {meth : Method} {c : Code} {T : State} {locs : List Loc} {cells slots : Nat} {Q : Option Value → Heap → List Loc → Prop} {rc rs : Nat}
theorem retI (X : Stand p l e R s m args below meth c T locs cells slots) (hx : p.tables.exec = Jvm.exec) {pc : Nat} {Ls : Array Slot} {z : Int32} {rest : List Value} (hret : meth.sig.returnType = some .int) (hd : decode c.code pc = .ok (.ireturn, 1)) {fs : List Frame}
    (hl : ∀ (f : JFrame) (acts : List Action), f.method = m → f.locked = none → f.entered = [] → (doReturn e (T.setTop f) acts (some (.int z))).1 = T.setFrames fs) : Steps p.tables e below (T.setTop (mkF m pc Ls (.int z :: rest))) (T.setFrames fs) := by
  have hm' : T.vm.method? m = some meth := X.method'
  have hn : narrow .int (.int z) = .int z := rfl
  show Steps p.tables e below (T.setTop { method := m, pc := pc, locals := Ls, stack := _ :: rest, locked := none }) _
  jvm_step X.here [X.here.top, hx, hd, hm', hret, hn]
  first | (intro acts; rw [hl _ acts rfl rfl rfl]) | rw [hl _ _ rfl rfl rfl]
  exact Steps.refl _
theorem own_retA (X : Stand p l e R s m args below meth c T locs cells slots) (hx : p.tables.exec = Jvm.exec) {pc : Nat} {Ls : Array Slot} {w : Value} {ty : FieldType} {rest : List Value} (hw : w.isRef = true) (hty : ty.isReference = true) (hret : meth.sig.returnType = some ty) (hd : decode c.code pc = .ok (.areturn, 1)) {fs : List Frame}
    (hl : ∀ (f : JFrame) (acts : List Action), f.method = m → f.locked = none → f.entered = [] → (doReturn e (T.setTop f) acts (some w)).1 = T.setFrames fs) : Steps p.tables e below (T.setTop (mkF m pc Ls (w :: rest))) (T.setFrames fs) := by
  have hm' : T.vm.method? m = some meth := X.method'
  show Steps p.tables e below (T.setTop { method := m, pc := pc, locals := Ls, stack := _ :: rest, locked := none }) _
  jvm_step X.here [X.here.top, hx, hd, hm', hret, hw, hty]
  first | (intro acts; rw [hl _ acts rfl rfl rfl]) | rw [hl _ _ rfl rfl rfl]
  exact Steps.refl _
theorem own_retL (X : Stand p l e R s m args below meth c T locs cells slots) (hx : p.tables.exec = Jvm.exec) {pc : Nat} {Ls : Array Slot} {z : Int64} {rest : List Value} (hret : meth.sig.returnType = some .long) (hd : decode c.code pc = .ok (.lreturn, 1)) {fs : List Frame}
    (hl : ∀ (f : JFrame) (acts : List Action), f.method = m → f.locked = none → f.entered = [] → (doReturn e (T.setTop f) acts (some (.long z))).1 = T.setFrames fs) : Steps p.tables e below (T.setTop (mkF m pc Ls (.long z :: rest))) (T.setFrames fs) := by
  have hm' : T.vm.method? m = some meth := X.method'
  show Steps p.tables e below (T.setTop { method := m, pc := pc, locals := Ls, stack := _ :: rest, locked := none }) _
  jvm_step X.here [X.here.top, hx, hd, hm', hret]
  first | (intro acts; rw [hl _ acts rfl rfl rfl]) | rw [hl _ _ rfl rfl rfl]
  exact Steps.refl _
theorem own_retDbl (X : Stand p l e R s m args below meth c T locs cells slots) (hx : p.tables.exec = Jvm.exec) {pc : Nat} {Ls : Array Slot} {z : UInt64} {rest : List Value} (hret : meth.sig.returnType = some .double) (hd : decode c.code pc = .ok (.dreturn, 1)) {fs : List Frame}
    (hl : ∀ (f : JFrame) (acts : List Action), f.method = m → f.locked = none → f.entered = [] → (doReturn e (T.setTop f) acts (some (.double z))).1 = T.setFrames fs) : Steps p.tables e below (T.setTop (mkF m pc Ls (.double z :: rest))) (T.setFrames fs) := by
  have hm' : T.vm.method? m = some meth := X.method'
  show Steps p.tables e below (T.setTop { method := m, pc := pc, locals := Ls, stack := _ :: rest, locked := none }) _
  jvm_step X.here [X.here.top, hx, hd, hm', hret]
  first | (intro acts; rw [hl _ acts rfl rfl rfl]) | rw [hl _ _ rfl rfl rfl]
  exact Steps.refl _
/-- what is left to be shown from the state A on: the run comes back, and Q holds of what it leaves -/
def OwnG (p : Program) (e : Env) (below : List Frame) (s : State) (Q : Option Value → Heap → List Loc → Prop) (rc rs : Nat) (A : State) : Prop :=
  ∃ s₂ o, Steps p.tables e below A s₂ ∧ s₂.status = .running ∧ Ended s₂ below o ∧ ∃ v L, o = .returned v ∧ Q v s₂.heap L ∧ FrameEnd s o s₂ L rc rs
theorem own_by {A B : State} (k : ∀ t, Steps p.tables e below B t → Steps p.tables e below A t) (h : OwnG p e below s Q rc rs B) : OwnG p e below s Q rc rs A := by
  obtain ⟨s₂, o, h1, r⟩ := h
  exact ⟨s₂, o, k _ h1, r⟩
theorem own_out (X : Stand p l e R s m args below meth c T locs cells slots) {v : Option Value} (hv : meth.sig.returnType = none → v = none) (hlk : meth.locks = false) {A : State}
    (k : ∀ fs, (∀ (f : JFrame) (acts : List Action), f.method = m → f.locked = none → f.entered = [] → (doReturn e (T.setTop f) acts v).1 = T.setFrames fs) → Steps p.tables e below A (T.setFrames fs)) (hQ : Q v T.heap locs) (hc : cells ≤ rc) (hs : slots ≤ rs) : OwnG p e below s Q rc rs A := by
  obtain ⟨fs, hr, hrun, hended, hW, hsame⟩ := X.leave (v := v) hv hlk
  exact ⟨_, _, k fs hr, hrun, hended, _, _, rfl, hQ, ⟨_, rfl⟩, hW, hsame.mono hc hs⟩
theorem own_outI (X : Stand p l e R s m args below meth c T locs cells slots) (hx : p.tables.exec = Jvm.exec) {pc : Nat} {Ls : Array Slot} {z : Int32} {rest : List Value} (hret : meth.sig.returnType = some .int) (hlk : meth.locks = false) (hd : decode c.code pc = .ok (.ireturn, 1)) (hQ : Q (some (.int z)) T.heap locs) (hc : cells ≤ rc) (hs : slots ≤ rs) :
    OwnG p e below s Q rc rs (T.setTop (mkF m pc Ls (.int z :: rest))) :=
  own_out X (v := some (.int z)) (fun h => by rw [hret] at h; cases h) hlk (fun fs hr => retI X hx hret hd hr) hQ hc hs
theorem own_outA (X : Stand p l e R s m args below meth c T locs cells slots) (hx : p.tables.exec = Jvm.exec) {pc : Nat} {Ls : Array Slot} {w : Value} {ty : FieldType} {rest : List Value} (hw : w.isRef = true) (hty : ty.isReference = true) (hret : meth.sig.returnType = some ty) (hlk : meth.locks = false) (hd : decode c.code pc = .ok (.areturn, 1)) (hQ : Q (some w) T.heap locs) (hc : cells ≤ rc) (hs : slots ≤ rs) :
    OwnG p e below s Q rc rs (T.setTop (mkF m pc Ls (w :: rest))) :=
  own_out X (v := some w) (fun h => by rw [hret] at h; cases h) hlk (fun fs hr => own_retA X hx hw hty hret hd hr) hQ hc hs
theorem own_outL (X : Stand p l e R s m args below meth c T locs cells slots) (hx : p.tables.exec = Jvm.exec) {pc : Nat} {Ls : Array Slot} {z : Int64} {rest : List Value} (hret : meth.sig.returnType = some .long) (hlk : meth.locks = false) (hd : decode c.code pc = .ok (.lreturn, 1)) (hQ : Q (some (.long z)) T.heap locs) (hc : cells ≤ rc) (hs : slots ≤ rs) :
    OwnG p e below s Q rc rs (T.setTop (mkF m pc Ls (.long z :: rest))) :=
  own_out X (v := some (.long z)) (fun h => by rw [hret] at h; cases h) hlk (fun fs hr => own_retL X hx hret hd hr) hQ hc hs
theorem own_outD (X : Stand p l e R s m args below meth c T locs cells slots) (hx : p.tables.exec = Jvm.exec) {pc : Nat} {Ls : Array Slot} {z : UInt64} {rest : List Value} (hret : meth.sig.returnType = some .double) (hlk : meth.locks = false) (hd : decode c.code pc = .ok (.dreturn, 1)) (hQ : Q (some (.double z)) T.heap locs) (hc : cells ≤ rc) (hs : slots ≤ rs) :
    OwnG p e below s Q rc rs (T.setTop (mkF m pc Ls (.double z :: rest))) :=
  own_out X (v := some (.double z)) (fun h => by rw [hret] at h; cases h) hlk (fun fs hr => own_retDbl X hx hret hd hr) hQ hc hs
theorem own_outV (X : Stand p l e R s m args below meth c T locs cells slots) (hx : p.tables.exec = Jvm.exec) {pc : Nat} {Ls : Array Slot} (hret : meth.sig.returnType = none) (hlk : meth.locks = false) (hd : decode c.code pc = .ok (.return_, 1)) (hQ : Q none T.heap locs) (hc : cells ≤ rc) (hs : slots ≤ rs) :
    OwnG p e below s Q rc rs (T.setTop (mkF m pc Ls [])) :=
  own_out X (v := none) (fun _ => rfl) hlk (fun fs hr => X.returnOut hx hret hd hr) hQ hc hs
theorem own_outN (X : Stand p l e R s m args below meth c T locs cells slots) (hx : p.tables.exec = Jvm.exec) {pc : Nat} {Ls : Array Slot} {z z' : Int32} {t : FieldType} {rest : List Value} (hret : meth.sig.returnType = some t) (ht : t = .boolean ∨ t = .byte ∨ t = .char ∨ t = .short) (hlk : meth.locks = false) (hd : decode c.code pc = .ok (.ireturn, 1)) (hz : nar t z = z') (hQ : Q (some (.int z')) T.heap locs) (hc : cells ≤ rc) (hs : slots ≤ rs) :
    OwnG p e below s Q rc rs (T.setTop (mkF m pc Ls (.int z :: rest))) := by
  subst hz
  exact own_out X (v := some (.int (nar t z))) (fun h => by rw [hret] at h; cases h) hlk (fun fs hr => retN X hx (t := t) hret (by rcases ht with rfl | rfl | rfl | rfl <;> simp) hd hr) hQ hc hs
theorem own_met {y : MethodName} {bytes : ByteArray} {maxL : Nat} {ret : Option FieldType} {rm : Room} {ws : List Cond} {as' : Array Value} {Z : State} {h0 : Heap} (hpl : plainFor y = true)
    (body : ∀ (p : Program) (e : Env) (s : State) (m : MethodId) (below : List Frame) (meth : Method) (c : Code) (s₁ : State), p.tables.exec = Jvm.exec → c.code = bytes → c.maxLocals = maxL → meth.sig.returnType = ret → meth.locks = false → s.vm.findClass y.cls = some m.cls → meth.name = y.name → Z.Warmed39 s.vm →
      Stand p l e rm s m as' below meth c s₁ [] 0 0 → s₁.heap = h0 → OwnG p e below s Q rm.cells rm.slots (s₁.setTop (entryFrame m as' maxL))) :
    MetFree l y (head1 (Cond.code y bytes maxL ret :: ws) rm) (fun a U => a = as' ∧ Z.Warmed39 U.vm ∧ U.heap = h0) (fun _ _ _ _ _ => True) (fun _ U o U' => ∃ v L, o = .returned v ∧ Q v U'.heap L ∧ FrameEnd U o U' L rm.cells rm.slots) := by
  refine MetFree.of_bodySF hpl hisR ?_
  intro p e s m args below meth c s₁ Bd hml0 hP hK
  obtain ⟨rfl, hZ, hh⟩ := hP
  have e0 : s₁.heap = h0 := by rw [← hh, Bd.state]; rfl
  exact body p e s m below meth c s₁ Bd.exec Bd.bytes hml0 Bd.returns Bd.notSynchronized (findClass_of_methodNamed Bd.named) (name_of_methodNamed Bd.named Bd.method).1 hZ (Stand.of_body Bd) e0
theorem own_pop2J {tb : Tables} [Ours tb] {target : State} {g : JFrame} (h : At T m c below) (hx : tb.exec = Jvm.exec) (hg : g.method = m) {x : Int64} {rest : List Value} (hd : decode c.code g.pc = .ok (.pop2, 1)) (hs : g.stack = .long x :: rest)
    (hr : Steps tb e below (T.setTop { g with pc := g.pc + 1, stack := rest }) target) : Steps tb e below (T.setTop g) target := by
  subst hg
  jvm_step h [h.top, hx, hd, hs, Value.category]
  exact hr
theorem own_dup2I {tb : Tables} [Ours tb] {target : State} {g : JFrame} (h : At T m c below) (hx : tb.exec = Jvm.exec) (hg : g.method = m) {x : Int32} {a : Addr} {rest : List Value} (hd : decode c.code g.pc = .ok (.dup2, 1)) (hs : g.stack = .int x :: .ref a :: rest)
    (hr : Steps tb e below (T.setTop { g with pc := g.pc + 1, stack := .int x :: .ref a :: .int x :: .ref a :: rest }) target) : Steps tb e below (T.setTop g) target := by
  subst hg
  jvm_step h [h.top, hx, hd, hs, Value.category]
  exact hr
theorem own_selp {Z s : State} {a0 args : Array Value} {y : MethodName} {n : Nat} (hZ : Z.Warmed39 s.vm) (wi : (Cond.instantiable y.cls n).before a0 Z = true) (wp : (Cond.privateMethod y).before a0 Z = true) (wm : (Cond.instanceMethod y).before a0 Z = true) (hy : y.cls ≠ "java/lang/invoke/MethodHandle" ∧ y.cls ≠ "java/lang/invoke/VarHandle") : (Cond.selects y.cls y y).before args s = true := by
  obtain ⟨c, k, h1, h2, -, h4, -⟩ := Cond.instantiable_spec (mv (args := args) hZ wi)
  exact selects_self_of_private h1 h2 (Bool.or_eq_false_iff.mp h4).1 (Cond.privateMethod_at (mvP hZ wp (args := #[]))) (mvT hZ wm) hy
end OwnKit
end Jvm.RoadKit
namespace Jvm.RoadKit
open Sem ClassFile Op Lib Jvm.Stand Jvm.Free Jvm.LawKit
section OwnArr
variable {p : Program} {l : Launch} {e : Env} {R : Room} {s : State} {m : MethodId} {args : Array Value} {below : List Frame} {meth : Method} {c : Code} {T : State} {locs : List Loc} {cells slots : Nat} {Z : State} {h h' : Heap} {a b : Addr} {ty : FieldType} {n : Nat} {f : Nat → Value}
/-- the array at a: its kind, its length, its components as a function of the place -/
def OwnA (Z : State) (h : Heap) (a : Addr) (ty : FieldType) (n : Nat) (f : Nat → Value) : Prop := ∃ c : Cell, Arr Z h a c ty ∧ c.slots.size = n ∧ n < 2 ^ 31 ∧ ∀ k, k < n → c.slots[k]? = some (f k)
def ownSet (f : Nat → Value) (i : Nat) (v : Value) : Nat → Value := fun k => if k = i then v else f k
theorem OwnA.lt (A : OwnA Z h a ty n f) : a < h.size := by obtain ⟨c, A, -⟩ := A; exact A.lt
theorem OwnA.ext (E : Ext h h') (A : OwnA Z h a ty n f) : OwnA Z h' a ty n f := by obtain ⟨c, A, r⟩ := A; exact ⟨c, A.ext E, r⟩
theorem OwnA.other {sl : Nat} {v : Value} (W : Wr h h' b sl v) (A : OwnA Z h a ty n f) (q : a ≠ b) : OwnA Z h' a ty n f := by obtain ⟨c, A, r⟩ := A; exact ⟨c, A.other W q, r⟩
theorem OwnA.keep {ws : List Addr} (A : OwnA Z h a ty n f) (K : Keep h h' ws) (q : a ∉ ws) : OwnA Z h' a ty n f := by obtain ⟨c, A, r⟩ := A; exact ⟨c, ⟨K.2.1 a c A.1 q, A.2⟩, r⟩
theorem OwnA.set {i : Nat} {v : Value} (W : Wr h h' a i v) (A : OwnA Z h a ty n f) (hi : i < n) : OwnA Z h' a ty n (ownSet f i v) := by
  obtain ⟨c, A, hn, hb, r⟩ := A
  refine ⟨_, A.same W, by simp [Cell.setSlot, hn], hb, fun k hk => ?_⟩
  by_cases e : k = i
  · subst e
    simp [Cell.setSlot, ownSet, hn, hi]
  · simp only [ownSet, if_neg e]
    rw [← r k hk]
    exact Array.getElem?_setIfInBounds_ne (Ne.symm e)
theorem OwnA.new {k : ClassId} {z : Int32} (A : Arr Z h a (newA k ty z) ty) {n : Nat} (q : ¬ z < 0) (hn : z.toNatClampNeg = n) : OwnA Z h a ty n (fun _ => defaultValue ty) := by
  subst hn
  refine ⟨_, A, sz_new _ _ _, (back32 q).2, fun i hi => ?_⟩
  simp [newA, hi]
theorem OwnA.bound (A : OwnA Z h a ty n f) : n < 2 ^ 31 := by obtain ⟨_, _, _, hb, _⟩ := A; exact hb
theorem OwnA.congr {f' : Nat → Value} (A : OwnA Z h a ty n f) (q : ∀ k, k < n → f k = f' k) : OwnA Z h a ty n f' := by
  obtain ⟨c, A, hn, hb, r⟩ := A
  exact ⟨c, A, hn, hb, fun k hk => by rw [r k hk, q k hk]⟩
theorem own_inb {c : Cell} {j : Int32} {i : Nat} (hn : c.slots.size = n) (hj : ¬ j < 0 ∧ j.toNatClampNeg = i ∧ i < n) : ¬ (j < 0 ∨ c.slots.size ≤ j.toNatClampNeg) := by
  rintro (q | q)
  · exact hj.1 q
  · rw [hn, hj.2.1] at q; exact absurd hj.2.2 (Nat.not_lt.mpr q)
theorem own_ldI (X : Stand p l e R s m args below meth c T locs cells slots) (hx : p.tables.exec = Jvm.exec) (hZ : Z.Warmed39 s.vm) (eT : T.heap = h) (A : OwnA Z h a .int n f) {j : Int32} {i : Nat} (hj : ¬ j < 0 ∧ j.toNatClampNeg = i ∧ i < n) {v : Value} (hv : f i = v) {g : JFrame} (hg : g.method = m) {rest : List Value} (hs : g.stack = .int j :: .ref a :: rest) (hd : decode c.code g.pc = .ok (.iaload, 1)) (target : State)
    (k : Steps p.tables e below (T.setTop { g with pc := g.pc + 1, stack := v :: rest }) target) : Steps p.tables e below (T.setTop g) target := by
  obtain ⟨cl, A, hn, hb, r⟩ := A
  exact X.iaload hx (j := j) (v := v) (by rw [eT]; exact A.1) (State.isArrayOf_alike hZ.alike A.2.1) A.2.2 (own_inb hn hj) (by rw [hj.2.1, r i hj.2.2, hv]) hg hs hd target k
theorem own_ldB (X : Stand p l e R s m args below meth c T locs cells slots) (hx : p.tables.exec = Jvm.exec) (hZ : Z.Warmed39 s.vm) (eT : T.heap = h) (A : OwnA Z h a .byte n f) {j : Int32} {i : Nat} (hj : ¬ j < 0 ∧ j.toNatClampNeg = i ∧ i < n) {v : Value} (hv : f i = v) {g : JFrame} (hg : g.method = m) {rest : List Value} (hs : g.stack = .int j :: .ref a :: rest) (hd : decode c.code g.pc = .ok (.baload, 1)) (target : State)
    (k : Steps p.tables e below (T.setTop { g with pc := g.pc + 1, stack := v :: rest }) target) : Steps p.tables e below (T.setTop g) target := by
  obtain ⟨cl, A, hn, hb, r⟩ := A
  exact X.baloadBytes hx (j := j) (v := v) (by rw [eT]; exact A.1) (State.isArrayOf_alike hZ.alike A.2.1) A.2.2 (own_inb hn hj) (by rw [hj.2.1, r i hj.2.2, hv]) hg hs hd target k
theorem own_ldJ (X : Stand p l e R s m args below meth c T locs cells slots) (hx : p.tables.exec = Jvm.exec) (hZ : Z.Warmed39 s.vm) (eT : T.heap = h) (A : OwnA Z h a .long n f) {j : Int32} {i : Nat} (hj : ¬ j < 0 ∧ j.toNatClampNeg = i ∧ i < n) {v : Value} (hv : f i = v) {g : JFrame} (hg : g.method = m) {rest : List Value} (hs : g.stack = .int j :: .ref a :: rest) (hd : decode c.code g.pc = .ok (.laload, 1)) (target : State)
    (k : Steps p.tables e below (T.setTop { g with pc := g.pc + 1, stack := v :: rest }) target) : Steps p.tables e below (T.setTop g) target := by
  obtain ⟨cl, A, hn, hb, r⟩ := A
  exact X.laload hx (j := j) (v := v) (by rw [eT]; exact A.1) (State.isArrayOf_alike hZ.alike A.2.1) A.2.2 (own_inb hn hj) (by rw [hj.2.1, r i hj.2.2, hv]) hg hs hd target k
theorem own_ldR (X : Stand p l e R s m args below meth c T locs cells slots) (hx : p.tables.exec = Jvm.exec) (hZ : Z.Warmed39 s.vm) (eT : T.heap = h) (A : OwnA Z h a ty n f) {j : Int32} {i : Nat} (hj : ¬ j < 0 ∧ j.toNatClampNeg = i ∧ i < n) {v : Value} (hv : f i = v) (hty : ty.isReference = true) {g : JFrame} (hg : g.method = m) {rest : List Value} (hs : g.stack = .int j :: .ref a :: rest) (hd : decode c.code g.pc = .ok (.aaload, 1)) (target : State)
    (k : Steps p.tables e below (T.setTop { g with pc := g.pc + 1, stack := v :: rest }) target) : Steps p.tables e below (T.setTop g) target := by
  obtain ⟨cl, A, hn, hb, r⟩ := A
  exact X.aaload hx (j := j) (v := v) (by rw [eT]; exact A.1) (State.isArrayOf_alike hZ.alike A.2.1) hty A.2.2 (own_inb hn hj) (by rw [hj.2.1, r i hj.2.2, hv]) hg hs hd target k
theorem own_len (X : Stand p l e R s m args below meth c T locs cells slots) (hx : p.tables.exec = Jvm.exec) (hZ : Z.Warmed39 s.vm) (eT : T.heap = h) (A : OwnA Z h a ty n f) {z : Int32} (hz : n.toInt32 = z) {g : JFrame} (hg : g.method = m) {rest : List Value} (hs : g.stack = .ref a :: rest) (hd : decode c.code g.pc = .ok (.arraylength, 1)) (target : State)
    (k : Steps p.tables e below (T.setTop { g with pc := g.pc + 1, stack := .int z :: rest }) target) : Steps p.tables e below (T.setTop g) target := by
  obtain ⟨cl, A, hn, hb, r⟩ := A
  refine X.arraylength hx (by rw [eT]; exact A.1) (State.isArrayOf_alike hZ.alike A.2.1) hg hs hd target ?_
  rw [hn, hz]; exact k
theorem own_stI (X : Stand p l e R s m args below meth c T locs cells slots) (hx : p.tables.exec = Jvm.exec) (hZ : Z.Warmed39 s.vm) (eT : T.heap = h) (A : OwnA Z h a .int n f) {j : Int32} {i : Nat} (hj : ¬ j < 0 ∧ j.toNatClampNeg = i ∧ i < n) {x : Int32} {g : JFrame} (hg : g.method = m) {rest : List Value} (hs : g.stack = .int x :: .int j :: .ref a :: rest) (hd : decode c.code g.pc = .ok (.iastore, 1)) :
    ∃ T' h', Stand p l e R s m args below meth c T' (locs ++ [⟨a, i⟩]) cells slots ∧ T'.heap = h' ∧ Wr h h' a i (.int x) ∧ OwnA Z h' a .int n (ownSet f i (.int x)) ∧ ∀ target, Steps p.tables e below (T'.setTop { g with pc := g.pc + 1, stack := rest }) target → Steps p.tables e below (T.setTop g) target := by
  obtain ⟨cl, A', hn, hb, r⟩ := A
  obtain ⟨T', h', X', e', W, st⟩ := stI X hx hZ eT A' (j := j) (x := x) (own_inb hn hj) hg hs hd
  rw [hj.2.1] at X' W
  exact ⟨T', h', X', e', W, OwnA.set W ⟨cl, A', hn, hb, r⟩ hj.2.2, st⟩
theorem own_stJ (X : Stand p l e R s m args below meth c T locs cells slots) (hx : p.tables.exec = Jvm.exec) (hZ : Z.Warmed39 s.vm) (eT : T.heap = h) (A : OwnA Z h a .long n f) {j : Int32} {i : Nat} (hj : ¬ j < 0 ∧ j.toNatClampNeg = i ∧ i < n) {x : Int64} {g : JFrame} (hg : g.method = m) {rest : List Value} (hs : g.stack = .long x :: .int j :: .ref a :: rest) (hd : decode c.code g.pc = .ok (.lastore, 1)) :
    ∃ T' h', Stand p l e R s m args below meth c T' (locs ++ [⟨a, i⟩]) cells slots ∧ T'.heap = h' ∧ Wr h h' a i (.long x) ∧ OwnA Z h' a .long n (ownSet f i (.long x)) ∧ ∀ target, Steps p.tables e below (T'.setTop { g with pc := g.pc + 1, stack := rest }) target → Steps p.tables e below (T.setTop g) target := by
  obtain ⟨cl, A', hn, hb, r⟩ := A
  obtain ⟨T', h', X', e', W, st⟩ := stJ X hx hZ eT A' (j := j) (x := x) (own_inb hn hj) hg hs hd
  rw [hj.2.1] at X' W
  exact ⟨T', h', X', e', W, OwnA.set W ⟨cl, A', hn, hb, r⟩ hj.2.2, st⟩
theorem own_stB (X : Stand p l e R s m args below meth c T locs cells slots) (hx : p.tables.exec = Jvm.exec) (hZ : Z.Warmed39 s.vm) (eT : T.heap = h) (A : OwnA Z h a .byte n f) {j : Int32} {i : Nat} (hj : ¬ j < 0 ∧ j.toNatClampNeg = i ∧ i < n) {x : Int32} {g : JFrame} (hg : g.method = m) {rest : List Value} (hs : g.stack = .int x :: .int j :: .ref a :: rest) (hd : decode c.code g.pc = .ok (.bastore, 1)) :
    ∃ T' h', Stand p l e R s m args below meth c T' (locs ++ [⟨a, i⟩]) cells slots ∧ T'.heap = h' ∧ Wr h h' a i (.int (nar .byte x)) ∧ OwnA Z h' a .byte n (ownSet f i (.int (nar .byte x))) ∧ ∀ target, Steps p.tables e below (T'.setTop { g with pc := g.pc + 1, stack := rest }) target → Steps p.tables e below (T.setTop g) target := by
  obtain ⟨cl, A', hn, hb, r⟩ := A
  obtain ⟨T', h', X', e', W, st⟩ := stB X hx hZ eT A' (j := j) (x := x) (own_inb hn hj) hg hs hd
  rw [hj.2.1] at X' W
  exact ⟨T', h', X', e', W, OwnA.set W ⟨cl, A', hn, hb, r⟩ hj.2.2, st⟩
theorem own_ldC (X : Stand p l e R s m args below meth c T locs cells slots) (hx : p.tables.exec = Jvm.exec) (hZ : Z.Warmed39 s.vm) (eT : T.heap = h) (A : OwnA Z h a .char n f) {j : Int32} {i : Nat} (hj : ¬ j < 0 ∧ j.toNatClampNeg = i ∧ i < n) {v : Value} (hv : f i = v) {g : JFrame} (hg : g.method = m) {rest : List Value} (hs : g.stack = .int j :: .ref a :: rest) (hd : decode c.code g.pc = .ok (.caload, 1)) (target : State)
    (k : Steps p.tables e below (T.setTop { g with pc := g.pc + 1, stack := v :: rest }) target) : Steps p.tables e below (T.setTop g) target := by
  obtain ⟨cl, A, hn, hb, r⟩ := A
  exact X.caload hx (j := j) (v := v) (by rw [eT]; exact A.1) (State.isArrayOf_alike hZ.alike A.2.1) A.2.2 (own_inb hn hj) (by rw [hj.2.1, r i hj.2.2, hv]) hg hs hd target k
theorem own_stC (X : Stand p l e R s m args below meth c T locs cells slots) (hx : p.tables.exec = Jvm.exec) (hZ : Z.Warmed39 s.vm) (eT : T.heap = h) (A : OwnA Z h a .char n f) {j : Int32} {i : Nat} (hj : ¬ j < 0 ∧ j.toNatClampNeg = i ∧ i < n) {x : Int32} {g : JFrame} (hg : g.method = m) {rest : List Value} (hs : g.stack = .int x :: .int j :: .ref a :: rest) (hd : decode c.code g.pc = .ok (.castore, 1)) :
    ∃ T' h', Stand p l e R s m args below meth c T' (locs ++ [⟨a, i⟩]) cells slots ∧ T'.heap = h' ∧ Wr h h' a i (.int (nar .char x)) ∧ OwnA Z h' a .char n (ownSet f i (.int (nar .char x))) ∧ ∀ target, Steps p.tables e below (T'.setTop { g with pc := g.pc + 1, stack := rest }) target → Steps p.tables e below (T.setTop g) target := by
  obtain ⟨cl, A', hn, hb, r⟩ := A
  obtain ⟨T', h', X', e', W, st⟩ := stC X hx hZ eT A' (j := j) (x := x) (own_inb hn hj) hg hs hd
  rw [hj.2.1] at X' W
  exact ⟨T', h', X', e', W, OwnA.set W ⟨cl, A', hn, hb, r⟩ hj.2.2, st⟩
theorem own_ldD (X : Stand p l e R s m args below meth c T locs cells slots) (hx : p.tables.exec = Jvm.exec) (hZ : Z.Warmed39 s.vm) (eT : T.heap = h) (A : OwnA Z h a .double n f) {j : Int32} {i : Nat} (hj : ¬ j < 0 ∧ j.toNatClampNeg = i ∧ i < n) {v : Value} (hv : f i = v) {g : JFrame} (hg : g.method = m) {rest : List Value} (hs : g.stack = .int j :: .ref a :: rest) (hd : decode c.code g.pc = .ok (.daload, 1)) (target : State)
    (k : Steps p.tables e below (T.setTop { g with pc := g.pc + 1, stack := v :: rest }) target) : Steps p.tables e below (T.setTop g) target := by
  obtain ⟨cl, A, hn, hb, r⟩ := A
  exact X.daload hx (j := j) (v := v) (by rw [eT]; exact A.1) (State.isArrayOf_alike hZ.alike A.2.1) A.2.2 (own_inb hn hj) (by rw [hj.2.1, r i hj.2.2, hv]) hg hs hd target k
theorem own_stD (X : Stand p l e R s m args below meth c T locs cells slots) (hx : p.tables.exec = Jvm.exec) (hZ : Z.Warmed39 s.vm) (eT : T.heap = h) (A : OwnA Z h a .double n f) {j : Int32} {i : Nat} (hj : ¬ j < 0 ∧ j.toNatClampNeg = i ∧ i < n) {x : UInt64} {g : JFrame} (hg : g.method = m) {rest : List Value} (hs : g.stack = .double x :: .int j :: .ref a :: rest) (hd : decode c.code g.pc = .ok (.dastore, 1)) :
    ∃ T' h', Stand p l e R s m args below meth c T' (locs ++ [⟨a, i⟩]) cells slots ∧ T'.heap = h' ∧ Wr h h' a i (.double x) ∧ OwnA Z h' a .double n (ownSet f i (.double x)) ∧ ∀ target, Steps p.tables e below (T'.setTop { g with pc := g.pc + 1, stack := rest }) target → Steps p.tables e below (T.setTop g) target := by
  obtain ⟨cl, A', hn, hb, r⟩ := A
  obtain ⟨T', h', X', e', W, st⟩ := stD X hx hZ eT A' (j := j) (x := x) (own_inb hn hj) hg hs hd
  rw [hj.2.1] at X' W
  exact ⟨T', h', X', e', W, OwnA.set W ⟨cl, A', hn, hb, r⟩ hj.2.2, st⟩
end OwnArr
end Jvm.RoadKit
namespace Jvm.Pilot.@@N@@
open Jvm Jvm.ClassFile Sem Op Lib Jvm.Free Jvm.Stand Jvm.LawKit Jvm.RoadKit Bundle Jvm.Pilot.@@N@@.Jvm.D
open Jvm.FP Jvm.Free.Fl
theorem own_sgn {A B : Nat} {e : Int} : (∃ c q, Core.roundRatio Core.b64 false A B e = .fin false c q) ∨ Core.roundRatio Core.b64 false A B e = .inf false := by
  unfold Core.roundRatio
  split
  · exact Or.inl ⟨_, _, rfl⟩
  · unfold Core.roundAt Core.settle Core.bound
    split <;> split <;> first | exact Or.inl ⟨_, _, rfl⟩ | exact Or.inr rfl
theorem own_finD {x : UInt64} (h : Fin64 x) {s : Bool} (q : Core.val64 x = .inf s) : False := by
  obtain ⟨s', c, q', h'⟩ := fin64_core.mp h
  rw [q] at h'
  cases h'
theorem own_l2d {a : Int64} (h : 0 ≤ a.toInt) : ∃ c q, Core.val64 (FP.l2d a) = .fin false c q := by
  have e : Core.val64 (FP.l2d a) = Core.roundRatio Core.b64 false a.toInt.natAbs 1 0 := by
    rw [show FP.l2d a = Core.l2d a from rfl, Core.val64_l2d]
    unfold Core.ofInt Core.round
    rw [decide_eq_false (by omega)]
  rcases own_sgn (A := a.toInt.natAbs) (B := 1) (e := 0) with ⟨c, q, h1⟩ | h1
  · exact ⟨c, q, e.trans h1⟩
  · exact absurd (e.trans h1) (fun z => own_finD (l2d_fin a) z)
theorem own_nzd {d : Int32} (hd : 0 < d.toInt) : d.toInt64 ≠ 0 := fun q => by
  have := congrArg Int64.toInt q
  rw [Int32.toInt_toInt64] at this
  rw [this] at hd
  revert hd; decide
theorem own_fin {a : Int64} {d : Int32} (hd : 0 < d.toInt) : Fin64 (FP.ddiv (FP.l2d a) (FP.i2d d)) := by
  rw [i2d_w]
  exact (ddiv_mag (l2d_mag a) (l2d_big (own_nzd hd)) (by decide) (by decide)).fin (by decide)
theorem own_ge {a : Int64} {d : Int32} (ha : 0 ≤ a.toInt) (hd : 0 < d.toInt) : ¬ cmpValue (FP.dcmp (FP.ddiv (FP.l2d a) (FP.i2d d)) FP.dconst0) .l < 0 := by
  have hf := own_fin (a := a) hd
  obtain ⟨c, q, h1⟩ := own_l2d ha
  obtain ⟨c2, q2, h2⟩ := own_l2d (a := d.toInt64) (by rw [Int32.toInt_toInt64]; omega)
  rw [i2d_w] at hf ⊢
  have hv : ∃ c q, Core.val64 (FP.ddiv (FP.l2d a) (FP.l2d d.toInt64)) = .fin false c q := by
    have e : Core.val64 (FP.ddiv (FP.l2d a) (FP.l2d d.toInt64)) = Core.quotient Core.b64 (.fin false c q) (.fin false c2 q2) := by
      rw [show FP.ddiv (FP.l2d a) (FP.l2d d.toInt64) = Core.ddiv (FP.l2d a) (FP.l2d d.toInt64) from rfl, Core.val64_ddiv, h1, h2]
    unfold Core.quotient at e
    dsimp only at e
    split at e
    · split at e
      · exact absurd e (fun z => by obtain ⟨_, _, _, w⟩ := fin64_core.mp hf; rw [z] at w; cases w)
      · exact absurd e (fun z => own_finD hf z)
    · rcases own_sgn (A := c) (B := c2) (e := q - q2) with ⟨c3, q3, h3⟩ | h3
      · exact ⟨c3, q3, e.trans h3⟩
      · exact absurd (e.trans h3) (fun z => own_finD hf z)
  obtain ⟨c3, q3, h3⟩ := hv
  generalize FP.ddiv (FP.l2d a) (FP.l2d d.toInt64) = v at *
  have e : FP.dcmp v FP.dconst0 = Core.order (Core.val64 v) (Core.val64 0) := rfl
  have z : Core.val64 0 = .fin false 0 Core.b64.qmin := by decide
  rw [e, h3, z]
  unfold Core.order Core.signed Core.inUnits
  dsimp only
  rw [if_neg (by decide), if_neg (by decide), Nat.zero_mul]
  generalize c3 * 2 ^ (q3 - min q3 Core.b64.qmin).toNat = n
  rcases Nat.eq_zero_or_pos n with rfl | hn
  · decide
  · have : compare ((n : Nat) : Int) ((0 : Nat) : Int) = .gt := by
      rw [Int.compare_eq_gt]; omega
    rw [this]; decide
theorem own_lt {a : Int64} {d : Int32} (hd : 0 < d.toInt) : cmpValue (FP.dcmp (FP.ddiv (FP.l2d a) (FP.i2d d)) 9218868437227405312) .g < 0 := by
  rw [dcmp_pinf (own_fin hd)]; decide
theorem own_nn (x : Int64) : 0 ≤ (x &&& 9223372036854775807).toInt := by
  rw [c_maskL x 9223372036854775807 63 (by decide) (by decide)]
  exact Int.emod_nonneg _ (by decide)
theorem own_dv (x : Int32) : 0 < ((1 : Int32) + (x &&& 7)).toInt := by
  have e := c_mask x 7 3 (by decide) (by decide)
  have e2 := c_iadd 1 (x &&& 7)
  have b := rng32 ((1 : Int32) + (x &&& 7))
  rw [e, show (1 : Int32).toInt = 1 from by decide] at e2
  have := Int.emod_nonneg x.toInt (show ((2 ^ 3 : Nat) : Int) ≠ 0 from by decide)
  have := Int.emod_lt_of_pos x.toInt (show (0 : Int) < ((2 ^ 3 : Nat) : Int) from by decide)
  omega
theorem own_ch (x : Int32) : ¬ (255 : Int32) < nar .char ((x &&& 255).toUInt32.toUInt16.toUInt32.toInt32) := by
  show ¬ (255 : Int32) < ((x &&& 255).toUInt32.toUInt16.toUInt32.toInt32).toUInt32.toUInt16.toUInt32.toInt32
  rw [i2c_mask, i2c_mask, Int32.lt_iff_toInt_lt, c_mask x 255 8 (by decide) (by decide)]
  have := Int.emod_lt_of_pos x.toInt (show (0 : Int) < ((2 ^ 8 : Nat) : Int) from by decide)
  show ¬ (255 : Int) < _
  omega

theorem d5_0 : decode jdk_52_method_21_code 0 = .ok (.iconst 0, 1) := by decide +kernel
theorem d5_1 : decode jdk_52_method_21_code 1 = .ok (.istore 5, 2) := by decide +kernel
theorem d5_3 : decode jdk_52_method_21_code 3 = .ok (.iload 5, 2) := by decide +kernel
theorem d5_5 : decode jdk_52_method_21_code 5 = .ok (.iload 4, 2) := by decide +kernel
theorem d5_7 : decode jdk_52_method_21_code 7 = .ok (.if_icmp .ge 37, 3) := by decide +kernel
theorem d5_10 : decode jdk_52_method_21_code 10 = .ok (.aload_n 0, 1) := by decide +kernel
theorem d5_11 : decode jdk_52_method_21_code 11 = .ok (.iload_n 1, 1) := by decide +kernel
theorem d5_12 : decode jdk_52_method_21_code 12 = .ok (.caload, 1) := by decide +kernel
theorem d5_13 : decode jdk_52_method_21_code 13 = .ok (.istore 6, 2) := by decide +kernel
theorem d5_15 : decode jdk_52_method_21_code 15 = .ok (.iload 6, 2) := by decide +kernel
theorem d5_17 : decode jdk_52_method_21_code 17 = .ok (.sipush 255, 3) := by decide +kernel
theorem d5_20 : decode jdk_52_method_21_code 20 = .ok (.if_icmp .le 6, 3) := by decide +kernel
theorem d5_23 : decode jdk_52_method_21_code 23 = .ok (.iload 5, 2) := by decide +kernel
theorem d5_25 : decode jdk_52_method_21_code 25 = .ok (.ireturn, 1) := by decide +kernel
theorem d5_26 : decode jdk_52_method_21_code 26 = .ok (.aload_n 2, 1) := by decide +kernel
theorem d5_27 : decode jdk_52_method_21_code 27 = .ok (.iload_n 3, 1) := by decide +kernel
theorem d5_28 : decode jdk_52_method_21_code 28 = .ok (.iload 6, 2) := by decide +kernel
theorem d5_30 : decode jdk_52_method_21_code 30 = .ok (.i2b, 1) := by decide +kernel
theorem d5_31 : decode jdk_52_method_21_code 31 = .ok (.bastore, 1) := by decide +kernel
theorem d5_32 : decode jdk_52_method_21_code 32 = .ok (.iinc 1 1, 3) := by decide +kernel
theorem d5_35 : decode jdk_52_method_21_code 35 = .ok (.iinc 3 1, 3) := by decide +kernel
theorem d5_38 : decode jdk_52_method_21_code 38 = .ok (.iinc 5 1, 3) := by decide +kernel
theorem d5_41 : decode jdk_52_method_21_code 41 = .ok (.goto (-38), 3) := by decide +kernel
theorem d5_44 : decode jdk_52_method_21_code 44 = .ok (.iload 4, 2) := by decide +kernel
theorem d5_46 : decode jdk_52_method_21_code 46 = .ok (.ireturn, 1) := by decide +kernel
theorem pn_0 : plainName "java/lang/StringUTF16" = true := by first | (simp [plainName, overriddenIn]; done) | decide +kernel
theorem ef_5 (m : MethodId) (x0 : Addr) (x1 : Int32) (x2 : Addr) (x3 : Int32) (x4 : Int32) : entryFrame m #[(.ref x0), (.int x1), (.ref x2), (.int x3), (.int x4)] 7 = mkF m 0 #[.val (.ref x0), .val (.int x1), .val (.ref x2), .val (.int x3), .val (.int x4), .unset, .unset] [] := by first | (simp [entryFrame, mkF, argsToLocals, Value.category]; done) | rfl
def Q5 (Z : State) (ac ab : Addr) (fc fb : Nat → Value) (c0 c1 : Int32) (h0 : Heap) (n0 : Nat) (v : Option Value) (h : Heap) (L : List Loc) : Prop := v = some (.int (2 : Int32)) ∧ Fr n0 L ∧ Keep h0 h [ab] ∧ ∃ fb', OwnA Z h ab .byte 2 fb'
set_option maxRecDepth 65536 in
set_option maxHeartbeats 40000000 in
theorem rm5 (l : Launch) (Z : State) (a0 : Array Value) (hw : ∀ d ∈ tables_1, d.before a0 Z = true) (ws : List Jvm.Cond) (ac ab : Addr) (fc fb : Nat → Value) (c0 c1 : Int32) (h0 : Heap) (n0 : Nat) (Z0 : n0 ≤ h0.size) (Ac : OwnA Z h0 ac .char 2 fc) (Ab : OwnA Z h0 ab .byte 2 fb) (nab : ac ≠ ab) (g2 : n0 ≤ ab) (hc0 : fc 0 = .int c0) (hc1 : fc 1 = .int c1) (hb0 : ¬ (255 : Int32) < c0) (hb1 : ¬ (255 : Int32) < c1) :
    MetFree l (⟨"java/lang/StringUTF16", "compress", "([CI[BII)I"⟩ : MethodName) (head1 (Jvm.Cond.code (⟨"java/lang/StringUTF16", "compress", "([CI[BII)I"⟩ : MethodName) jdk_52_method_21_code 7 (some .int) :: ws) ({ frames := 0, cells := 0, slots := 0, locals := 0 } : Room)) (fun aa_ U => aa_ = #[(.ref ac), (.int (0 : Int32)), (.ref ab), (.int (0 : Int32)), (.int (2 : Int32))] ∧ Z.Warmed39 U.vm ∧ U.heap = h0) (fun _ _ _ _ _ => True) (fun _ U o U' => ∃ v L, o = .returned v ∧ Q5 Z ac ab fc fb c0 c1 h0 n0 v U'.heap L ∧ FrameEnd U o U' L ({ frames := 0, cells := 0, slots := 0, locals := 0 } : Room).cells ({ frames := 0, cells := 0, slots := 0, locals := 0 } : Room).slots) := by
  refine own_met (Q := fun v h L => Q5 Z ac ab fc fb c0 c1 h0 n0 v h L) (plainFor_of_name pn_0) ?_
  intro p e s m below meth c s₁ hx hby hml hret hlk hown hnm hZ X0 e0
  have N0 := Fr.nil n0
  rw [ef_5 m ac (0 : Int32) ab (0 : Int32) (2 : Int32)]
  show OwnG p e below s _ _ _ (s₁.setTop (mkF m 0 #[.val (.ref ac), .val (.int (0 : Int32)), .val (.ref ab), .val (.int (0 : Int32)), .val (.int (2 : Int32)), .unset, .unset] []))
  refine own_by (fun t kk_ => XS.iconst X0.here hx rfl (hb hby d5_0) kk_) ?_
  show OwnG p e below s _ _ _ (s₁.setTop (mkF m 1 #[.val (.ref ac), .val (.int (0 : Int32)), .val (.ref ab), .val (.int (0 : Int32)), .val (.int (2 : Int32)), .unset, .unset] [(.int (0 : Int32))]))
  refine own_by (fun t kk_ => XS.istore X0.here hx rfl (hb hby d5_1) rfl (l' := #[.val (.ref ac), .val (.int (0 : Int32)), .val (.ref ab), .val (.int (0 : Int32)), .val (.int (2 : Int32)), .val (.int (0 : Int32)), .unset]) rfl kk_) ?_
  show OwnG p e below s _ _ _ (s₁.setTop (mkF m 3 #[.val (.ref ac), .val (.int (0 : Int32)), .val (.ref ab), .val (.int (0 : Int32)), .val (.int (2 : Int32)), .val (.int (0 : Int32)), .unset] []))
  show OwnG p e below s _ _ _ (s₁.setTop (mkF m 3 #[.val (.ref ac), .val (.int (0 : Int32)), .val (.ref ab), .val (.int (0 : Int32)), .val (.int (2 : Int32)), .val (.int (0 : Int32)), .unset] []))
  refine own_by (fun t kk_ => XS.iload X0.here hx rfl (hb hby d5_3) rfl  kk_) ?_
  show OwnG p e below s _ _ _ (s₁.setTop (mkF m 5 #[.val (.ref ac), .val (.int (0 : Int32)), .val (.ref ab), .val (.int (0 : Int32)), .val (.int (2 : Int32)), .val (.int (0 : Int32)), .unset] [(.int (0 : Int32))]))
  refine own_by (fun t kk_ => XS.iload X0.here hx rfl (hb hby d5_5) rfl  kk_) ?_
  show OwnG p e below s _ _ _ (s₁.setTop (mkF m 7 #[.val (.ref ac), .val (.int (0 : Int32)), .val (.ref ab), .val (.int (0 : Int32)), .val (.int (2 : Int32)), .val (.int (0 : Int32)), .unset] [(.int (2 : Int32)), (.int (0 : Int32))]))
  refine own_by (fun t kk_ => XS.icmpNo X0.here hx rfl (hb hby d5_7) rfl (tlt (by decide)).2.1 kk_) ?_
  show OwnG p e below s _ _ _ (s₁.setTop (mkF m 10 #[.val (.ref ac), .val (.int (0 : Int32)), .val (.ref ab), .val (.int (0 : Int32)), .val (.int (2 : Int32)), .val (.int (0 : Int32)), .unset] []))
  refine own_by (fun t kk_ => XS.aloadN X0.here hx rfl (hb hby d5_10) rfl rfl kk_) ?_
  show OwnG p e below s _ _ _ (s₁.setTop (mkF m 11 #[.val (.ref ac), .val (.int (0 : Int32)), .val (.ref ab), .val (.int (0 : Int32)), .val (.int (2 : Int32)), .val (.int (0 : Int32)), .unset] [(.ref ac)]))
  refine own_by (fun t kk_ => XS.iloadN X0.here hx rfl (hb hby d5_11) rfl  kk_) ?_
  show OwnG p e below s _ _ _ (s₁.setTop (mkF m 12 #[.val (.ref ac), .val (.int (0 : Int32)), .val (.ref ab), .val (.int (0 : Int32)), .val (.int (2 : Int32)), .val (.int (0 : Int32)), .unset] [(.int (0 : Int32)), (.ref ac)]))
  refine own_by (fun t kk_ => own_ldC X0 hx hZ e0 Ac (j := (0 : Int32)) (i := 0) ⟨by decide, rfl, by decide⟩ (v := (.int c0)) hc0 (g := (mkF m 12 #[.val (.ref ac), .val (.int (0 : Int32)), .val (.ref ab), .val (.int (0 : Int32)), .val (.int (2 : Int32)), .val (.int (0 : Int32)), .unset] [(.int (0 : Int32)), (.ref ac)])) rfl rfl (hb hby d5_12) _ kk_) ?_
  show OwnG p e below s _ _ _ (s₁.setTop (mkF m 13 #[.val (.ref ac), .val (.int (0 : Int32)), .val (.ref ab), .val (.int (0 : Int32)), .val (.int (2 : Int32)), .val (.int (0 : Int32)), .unset] [(.int c0)]))
  refine own_by (fun t kk_ => XS.istore X0.here hx rfl (hb hby d5_13) rfl (l' := #[.val (.ref ac), .val (.int (0 : Int32)), .val (.ref ab), .val (.int (0 : Int32)), .val (.int (2 : Int32)), .val (.int (0 : Int32)), .val (.int c0)]) rfl kk_) ?_
  show OwnG p e below s _ _ _ (s₁.setTop (mkF m 15 #[.val (.ref ac), .val (.int (0 : Int32)), .val (.ref ab), .val (.int (0 : Int32)), .val (.int (2 : Int32)), .val (.int (0 : Int32)), .val (.int c0)] []))
  refine own_by (fun t kk_ => XS.iload X0.here hx rfl (hb hby d5_15) rfl  kk_) ?_
  show OwnG p e below s _ _ _ (s₁.setTop (mkF m 17 #[.val (.ref ac), .val (.int (0 : Int32)), .val (.ref ab), .val (.int (0 : Int32)), .val (.int (2 : Int32)), .val (.int (0 : Int32)), .val (.int c0)] [(.int c0)]))
  refine own_by (fun t kk_ => XS.sipush X0.here hx rfl (hb hby d5_17) kk_) ?_
  show OwnG p e below s _ _ _ (s₁.setTop (mkF m 20 #[.val (.ref ac), .val (.int (0 : Int32)), .val (.ref ab), .val (.int (0 : Int32)), .val (.int (2 : Int32)), .val (.int (0 : Int32)), .val (.int c0)] [(.int (255 : Int32)), (.int c0)]))
  refine own_by (fun t kk_ => XS.icmpYes X0.here hx rfl (pc0 := 20) (pc' := 26) rfl (hb hby d5_20) rfl (flt hb0).2.2.2 (by decide) (by decide) kk_) ?_
  show OwnG p e below s _ _ _ (s₁.setTop (mkF m 26 #[.val (.ref ac), .val (.int (0 : Int32)), .val (.ref ab), .val (.int (0 : Int32)), .val (.int (2 : Int32)), .val (.int (0 : Int32)), .val (.int c0)] []))
  refine own_by (fun t kk_ => XS.aloadN X0.here hx rfl (hb hby d5_26) rfl rfl kk_) ?_
  show OwnG p e below s _ _ _ (s₁.setTop (mkF m 27 #[.val (.ref ac), .val (.int (0 : Int32)), .val (.ref ab), .val (.int (0 : Int32)), .val (.int (2 : Int32)), .val (.int (0 : Int32)), .val (.int c0)] [(.ref ab)]))
  refine own_by (fun t kk_ => XS.iloadN X0.here hx rfl (hb hby d5_27) rfl  kk_) ?_
  show OwnG p e below s _ _ _ (s₁.setTop (mkF m 28 #[.val (.ref ac), .val (.int (0 : Int32)), .val (.ref ab), .val (.int (0 : Int32)), .val (.int (2 : Int32)), .val (.int (0 : Int32)), .val (.int c0)] [(.int (0 : Int32)), (.ref ab)]))
  refine own_by (fun t kk_ => XS.iload X0.here hx rfl (hb hby d5_28) rfl  kk_) ?_
  show OwnG p e below s _ _ _ (s₁.setTop (mkF m 30 #[.val (.ref ac), .val (.int (0 : Int32)), .val (.ref ab), .val (.int (0 : Int32)), .val (.int (2 : Int32)), .val (.int (0 : Int32)), .val (.int c0)] [(.int c0), (.int (0 : Int32)), (.ref ab)]))
  refine own_by (fun t kk_ => XS.i2b X0.here hx rfl (hb hby d5_30) rfl kk_) ?_
  show OwnG p e below s _ _ _ (s₁.setTop (mkF m 31 #[.val (.ref ac), .val (.int (0 : Int32)), .val (.ref ab), .val (.int (0 : Int32)), .val (.int (2 : Int32)), .val (.int (0 : Int32)), .val (.int c0)] [(.int (c0.toInt8.toInt32)), (.int (0 : Int32)), (.ref ab)]))
  obtain ⟨T1, h1, X1, e1, W1, A1, st1⟩ := own_stB X0 hx hZ e0 Ab (j := (0 : Int32)) (i := 0) ⟨by decide, rfl, by decide⟩ (g := (mkF m 31 #[.val (.ref ac), .val (.int (0 : Int32)), .val (.ref ab), .val (.int (0 : Int32)), .val (.int (2 : Int32)), .val (.int (0 : Int32)), .val (.int c0)] [(.int (c0.toInt8.toInt32)), (.int (0 : Int32)), (.ref ab)])) rfl rfl (hb hby d5_31)
  refine own_by (fun t kk_ => st1 _ kk_) ?_
  have f2 := OwnA.other W1 Ac nab
  have f4 := Keep.wr (Keep.refl h0 [ab]) W1 (Or.inl (by simp))
  have N1 := Fr.snoc X1 N0 g2
  have sz1 : n0 ≤ h1.size := by rw [W1.size]; exact Z0
  show OwnG p e below s _ _ _ (T1.setTop (mkF m 32 #[.val (.ref ac), .val (.int (0 : Int32)), .val (.ref ab), .val (.int (0 : Int32)), .val (.int (2 : Int32)), .val (.int (0 : Int32)), .val (.int c0)] []))
  refine own_by (fun t kk_ => XS.iinc X1.here hx rfl (hb hby d5_32) rfl (l' := #[.val (.ref ac), .val (.int ((0 : Int32) + (1 : Int32))), .val (.ref ab), .val (.int (0 : Int32)), .val (.int (2 : Int32)), .val (.int (0 : Int32)), .val (.int c0)]) rfl kk_) ?_
  show OwnG p e below s _ _ _ (T1.setTop (mkF m 35 #[.val (.ref ac), .val (.int ((0 : Int32) + (1 : Int32))), .val (.ref ab), .val (.int (0 : Int32)), .val (.int (2 : Int32)), .val (.int (0 : Int32)), .val (.int c0)] []))
  refine own_by (fun t kk_ => XS.iinc X1.here hx rfl (hb hby d5_35) rfl (l' := #[.val (.ref ac), .val (.int ((0 : Int32) + (1 : Int32))), .val (.ref ab), .val (.int ((0 : Int32) + (1 : Int32))), .val (.int (2 : Int32)), .val (.int (0 : Int32)), .val (.int c0)]) rfl kk_) ?_
  show OwnG p e below s _ _ _ (T1.setTop (mkF m 38 #[.val (.ref ac), .val (.int ((0 : Int32) + (1 : Int32))), .val (.ref ab), .val (.int ((0 : Int32) + (1 : Int32))), .val (.int (2 : Int32)), .val (.int (0 : Int32)), .val (.int c0)] []))
  refine own_by (fun t kk_ => XS.iinc X1.here hx rfl (hb hby d5_38) rfl (l' := #[.val (.ref ac), .val (.int ((0 : Int32) + (1 : Int32))), .val (.ref ab), .val (.int ((0 : Int32) + (1 : Int32))), .val (.int (2 : Int32)), .val (.int ((0 : Int32) + (1 : Int32))), .val (.int c0)]) rfl kk_) ?_
  show OwnG p e below s _ _ _ (T1.setTop (mkF m 41 #[.val (.ref ac), .val (.int ((0 : Int32) + (1 : Int32))), .val (.ref ab), .val (.int ((0 : Int32) + (1 : Int32))), .val (.int (2 : Int32)), .val (.int ((0 : Int32) + (1 : Int32))), .val (.int c0)] []))
  refine own_by (fun t kk_ => XS.goto X1.here hx rfl (pc0 := 41) (pc' := 3) rfl (hb hby d5_41) (by decide) (by decide) kk_) ?_
  show OwnG p e below s _ _ _ (T1.setTop (mkF m 3 #[.val (.ref ac), .val (.int ((0 : Int32) + (1 : Int32))), .val (.ref ab), .val (.int ((0 : Int32) + (1 : Int32))), .val (.int (2 : Int32)), .val (.int ((0 : Int32) + (1 : Int32))), .val (.int c0)] []))
  show OwnG p e below s _ _ _ (T1.setTop (mkF m 3 #[.val (.ref ac), .val (.int (1 : Int32)), .val (.ref ab), .val (.int (1 : Int32)), .val (.int (2 : Int32)), .val (.int (1 : Int32)), .val (.int c0)] []))
  refine own_by (fun t kk_ => XS.iload X1.here hx rfl (hb hby d5_3) rfl  kk_) ?_
  show OwnG p e below s _ _ _ (T1.setTop (mkF m 5 #[.val (.ref ac), .val (.int (1 : Int32)), .val (.ref ab), .val (.int (1 : Int32)), .val (.int (2 : Int32)), .val (.int (1 : Int32)), .val (.int c0)] [(.int (1 : Int32))]))
  refine own_by (fun t kk_ => XS.iload X1.here hx rfl (hb hby d5_5) rfl  kk_) ?_
  show OwnG p e below s _ _ _ (T1.setTop (mkF m 7 #[.val (.ref ac), .val (.int (1 : Int32)), .val (.ref ab), .val (.int (1 : Int32)), .val (.int (2 : Int32)), .val (.int (1 : Int32)), .val (.int c0)] [(.int (2 : Int32)), (.int (1 : Int32))]))
  refine own_by (fun t kk_ => XS.icmpNo X1.here hx rfl (hb hby d5_7) rfl (tlt (by decide)).2.1 kk_) ?_
  show OwnG p e below s _ _ _ (T1.setTop (mkF m 10 #[.val (.ref ac), .val (.int (1 : Int32)), .val (.ref ab), .val (.int (1 : Int32)), .val (.int (2 : Int32)), .val (.int (1 : Int32)), .val (.int c0)] []))
  refine own_by (fun t kk_ => XS.aloadN X1.here hx rfl (hb hby d5_10) rfl rfl kk_) ?_
  show OwnG p e below s _ _ _ (T1.setTop (mkF m 11 #[.val (.ref ac), .val (.int (1 : Int32)), .val (.ref ab), .val (.int (1 : Int32)), .val (.int (2 : Int32)), .val (.int (1 : Int32)), .val (.int c0)] [(.ref ac)]))
  refine own_by (fun t kk_ => XS.iloadN X1.here hx rfl (hb hby d5_11) rfl  kk_) ?_
  show OwnG p e below s _ _ _ (T1.setTop (mkF m 12 #[.val (.ref ac), .val (.int (1 : Int32)), .val (.ref ab), .val (.int (1 : Int32)), .val (.int (2 : Int32)), .val (.int (1 : Int32)), .val (.int c0)] [(.int (1 : Int32)), (.ref ac)]))
  refine own_by (fun t kk_ => own_ldC X1 hx hZ e1 f2 (j := (1 : Int32)) (i := 1) ⟨by decide, rfl, by decide⟩ (v := (.int c1)) hc1 (g := (mkF m 12 #[.val (.ref ac), .val (.int (1 : Int32)), .val (.ref ab), .val (.int (1 : Int32)), .val (.int (2 : Int32)), .val (.int (1 : Int32)), .val (.int c0)] [(.int (1 : Int32)), (.ref ac)])) rfl rfl (hb hby d5_12) _ kk_) ?_
  show OwnG p e below s _ _ _ (T1.setTop (mkF m 13 #[.val (.ref ac), .val (.int (1 : Int32)), .val (.ref ab), .val (.int (1 : Int32)), .val (.int (2 : Int32)), .val (.int (1 : Int32)), .val (.int c0)] [(.int c1)]))
  refine own_by (fun t kk_ => XS.istore X1.here hx rfl (hb hby d5_13) rfl (l' := #[.val (.ref ac), .val (.int (1 : Int32)), .val (.ref ab), .val (.int (1 : Int32)), .val (.int (2 : Int32)), .val (.int (1 : Int32)), .val (.int c1)]) rfl kk_) ?_
  show OwnG p e below s _ _ _ (T1.setTop (mkF m 15 #[.val (.ref ac), .val (.int (1 : Int32)), .val (.ref ab), .val (.int (1 : Int32)), .val (.int (2 : Int32)), .val (.int (1 : Int32)), .val (.int c1)] []))
  refine own_by (fun t kk_ => XS.iload X1.here hx rfl (hb hby d5_15) rfl  kk_) ?_
  show OwnG p e below s _ _ _ (T1.setTop (mkF m 17 #[.val (.ref ac), .val (.int (1 : Int32)), .val (.ref ab), .val (.int (1 : Int32)), .val (.int (2 : Int32)), .val (.int (1 : Int32)), .val (.int c1)] [(.int c1)]))
  refine own_by (fun t kk_ => XS.sipush X1.here hx rfl (hb hby d5_17) kk_) ?_
  show OwnG p e below s _ _ _ (T1.setTop (mkF m 20 #[.val (.ref ac), .val (.int (1 : Int32)), .val (.ref ab), .val (.int (1 : Int32)), .val (.int (2 : Int32)), .val (.int (1 : Int32)), .val (.int c1)] [(.int (255 : Int32)), (.int c1)]))
  refine own_by (fun t kk_ => XS.icmpYes X1.here hx rfl (pc0 := 20) (pc' := 26) rfl (hb hby d5_20) rfl (flt hb1).2.2.2 (by decide) (by decide) kk_) ?_
  show OwnG p e below s _ _ _ (T1.setTop (mkF m 26 #[.val (.ref ac), .val (.int (1 : Int32)), .val (.ref ab), .val (.int (1 : Int32)), .val (.int (2 : Int32)), .val (.int (1 : Int32)), .val (.int c1)] []))
  refine own_by (fun t kk_ => XS.aloadN X1.here hx rfl (hb hby d5_26) rfl rfl kk_) ?_
  show OwnG p e below s _ _ _ (T1.setTop (mkF m 27 #[.val (.ref ac), .val (.int (1 : Int32)), .val (.ref ab), .val (.int (1 : Int32)), .val (.int (2 : Int32)), .val (.int (1 : Int32)), .val (.int c1)] [(.ref ab)]))
  refine own_by (fun t kk_ => XS.iloadN X1.here hx rfl (hb hby d5_27) rfl  kk_) ?_
  show OwnG p e below s _ _ _ (T1.setTop (mkF m 28 #[.val (.ref ac), .val (.int (1 : Int32)), .val (.ref ab), .val (.int (1 : Int32)), .val (.int (2 : Int32)), .val (.int (1 : Int32)), .val (.int c1)] [(.int (1 : Int32)), (.ref ab)]))
  refine own_by (fun t kk_ => XS.iload X1.here hx rfl (hb hby d5_28) rfl  kk_) ?_
  show OwnG p e below s _ _ _ (T1.setTop (mkF m 30 #[.val (.ref ac), .val (.int (1 : Int32)), .val (.ref ab), .val (.int (1 : Int32)), .val (.int (2 : Int32)), .val (.int (1 : Int32)), .val (.int c1)] [(.int c1), (.int (1 : Int32)), (.ref ab)]))
  refine own_by (fun t kk_ => XS.i2b X1.here hx rfl (hb hby d5_30) rfl kk_) ?_
  show OwnG p e below s _ _ _ (T1.setTop (mkF m 31 #[.val (.ref ac), .val (.int (1 : Int32)), .val (.ref ab), .val (.int (1 : Int32)), .val (.int (2 : Int32)), .val (.int (1 : Int32)), .val (.int c1)] [(.int (c1.toInt8.toInt32)), (.int (1 : Int32)), (.ref ab)]))
  obtain ⟨T5, h5, X5, e5, W5, A5, st5⟩ := own_stB X1 hx hZ e1 A1 (j := (1 : Int32)) (i := 1) ⟨by decide, rfl, by decide⟩ (g := (mkF m 31 #[.val (.ref ac), .val (.int (1 : Int32)), .val (.ref ab), .val (.int (1 : Int32)), .val (.int (2 : Int32)), .val (.int (1 : Int32)), .val (.int c1)] [(.int (c1.toInt8.toInt32)), (.int (1 : Int32)), (.ref ab)])) rfl rfl (hb hby d5_31)
  refine own_by (fun t kk_ => st5 _ kk_) ?_
  have f6 := OwnA.other W5 f2 nab
  have f8 := Keep.wr f4 W5 (Or.inl (by simp))
  have N5 := Fr.snoc X5 N1 g2
  have sz5 : n0 ≤ h5.size := by rw [W5.size]; exact sz1
  show OwnG p e below s _ _ _ (T5.setTop (mkF m 32 #[.val (.ref ac), .val (.int (1 : Int32)), .val (.ref ab), .val (.int (1 : Int32)), .val (.int (2 : Int32)), .val (.int (1 : Int32)), .val (.int c1)] []))
  refine own_by (fun t kk_ => XS.iinc X5.here hx rfl (hb hby d5_32) rfl (l' := #[.val (.ref ac), .val (.int ((1 : Int32) + (1 : Int32))), .val (.ref ab), .val (.int (1 : Int32)), .val (.int (2 : Int32)), .val (.int (1 : Int32)), .val (.int c1)]) rfl kk_) ?_
  show OwnG p e below s _ _ _ (T5.setTop (mkF m 35 #[.val (.ref ac), .val (.int ((1 : Int32) + (1 : Int32))), .val (.ref ab), .val (.int (1 : Int32)), .val (.int (2 : Int32)), .val (.int (1 : Int32)), .val (.int c1)] []))
  refine own_by (fun t kk_ => XS.iinc X5.here hx rfl (hb hby d5_35) rfl (l' := #[.val (.ref ac), .val (.int ((1 : Int32) + (1 : Int32))), .val (.ref ab), .val (.int ((1 : Int32) + (1 : Int32))), .val (.int (2 : Int32)), .val (.int (1 : Int32)), .val (.int c1)]) rfl kk_) ?_
  show OwnG p e below s _ _ _ (T5.setTop (mkF m 38 #[.val (.ref ac), .val (.int ((1 : Int32) + (1 : Int32))), .val (.ref ab), .val (.int ((1 : Int32) + (1 : Int32))), .val (.int (2 : Int32)), .val (.int (1 : Int32)), .val (.int c1)] []))
  refine own_by (fun t kk_ => XS.iinc X5.here hx rfl (hb hby d5_38) rfl (l' := #[.val (.ref ac), .val (.int ((1 : Int32) + (1 : Int32))), .val (.ref ab), .val (.int ((1 : Int32) + (1 : Int32))), .val (.int (2 : Int32)), .val (.int ((1 : Int32) + (1 : Int32))), .val (.int c1)]) rfl kk_) ?_
  show OwnG p e below s _ _ _ (T5.setTop (mkF m 41 #[.val (.ref ac), .val (.int ((1 : Int32) + (1 : Int32))), .val (.ref ab), .val (.int ((1 : Int32) + (1 : Int32))), .val (.int (2 : Int32)), .val (.int ((1 : Int32) + (1 : Int32))), .val (.int c1)] []))
  refine own_by (fun t kk_ => XS.goto X5.here hx rfl (pc0 := 41) (pc' := 3) rfl (hb hby d5_41) (by decide) (by decide) kk_) ?_
  show OwnG p e below s _ _ _ (T5.setTop (mkF m 3 #[.val (.ref ac), .val (.int ((1 : Int32) + (1 : Int32))), .val (.ref ab), .val (.int ((1 : Int32) + (1 : Int32))), .val (.int (2 : Int32)), .val (.int ((1 : Int32) + (1 : Int32))), .val (.int c1)] []))
  show OwnG p e below s _ _ _ (T5.setTop (mkF m 3 #[.val (.ref ac), .val (.int (2 : Int32)), .val (.ref ab), .val (.int (2 : Int32)), .val (.int (2 : Int32)), .val (.int (2 : Int32)), .val (.int c1)] []))
  refine own_by (fun t kk_ => XS.iload X5.here hx rfl (hb hby d5_3) rfl  kk_) ?_
  show OwnG p e below s _ _ _ (T5.setTop (mkF m 5 #[.val (.ref ac), .val (.int (2 : Int32)), .val (.ref ab), .val (.int (2 : Int32)), .val (.int (2 : Int32)), .val (.int (2 : Int32)), .val (.int c1)] [(.int (2 : Int32))]))
  refine own_by (fun t kk_ => XS.iload X5.here hx rfl (hb hby d5_5) rfl  kk_) ?_
  show OwnG p e below s _ _ _ (T5.setTop (mkF m 7 #[.val (.ref ac), .val (.int (2 : Int32)), .val (.ref ab), .val (.int (2 : Int32)), .val (.int (2 : Int32)), .val (.int (2 : Int32)), .val (.int c1)] [(.int (2 : Int32)), (.int (2 : Int32))]))
  refine own_by (fun t kk_ => XS.icmpYes X5.here hx rfl (pc0 := 7) (pc' := 44) rfl (hb hby d5_7) rfl (flt (by decide)).2.1 (by decide) (by decide) kk_) ?_
  show OwnG p e below s _ _ _ (T5.setTop (mkF m 44 #[.val (.ref ac), .val (.int (2 : Int32)), .val (.ref ab), .val (.int (2 : Int32)), .val (.int (2 : Int32)), .val (.int (2 : Int32)), .val (.int c1)] []))
  refine own_by (fun t kk_ => XS.iload X5.here hx rfl (hb hby d5_44) rfl  kk_) ?_
  show OwnG p e below s _ _ _ (T5.setTop (mkF m 46 #[.val (.ref ac), .val (.int (2 : Int32)), .val (.ref ab), .val (.int (2 : Int32)), .val (.int (2 : Int32)), .val (.int (2 : Int32)), .val (.int c1)] [(.int (2 : Int32))]))
  exact own_outI X5 hx hret hlk (hb hby d5_46) (by show _ ∧ _; rw [e5]; exact ⟨rfl, N5, f8, _, A5⟩) (by decide) (by decide)
theorem d4_0 : decode jdk_52_method_16_code 0 = .ok (.iload_n 2, 1) := by decide +kernel
theorem d4_1 : decode jdk_52_method_16_code 1 = .ok (.newarray .byte, 2) := by decide +kernel
theorem d4_3 : decode jdk_52_method_16_code 3 = .ok (.astore_n 3, 1) := by decide +kernel
theorem d4_4 : decode jdk_52_method_16_code 4 = .ok (.aload_n 0, 1) := by decide +kernel
theorem d4_5 : decode jdk_52_method_16_code 5 = .ok (.iload_n 1, 1) := by decide +kernel
theorem d4_6 : decode jdk_52_method_16_code 6 = .ok (.aload_n 3, 1) := by decide +kernel
theorem d4_7 : decode jdk_52_method_16_code 7 = .ok (.iconst 0, 1) := by decide +kernel
theorem d4_8 : decode jdk_52_method_16_code 8 = .ok (.iload_n 2, 1) := by decide +kernel
theorem d4_9 : decode jdk_52_method_16_code 9 = .ok (.invokestatic 115, 3) := by decide +kernel
theorem d4_12 : decode jdk_52_method_16_code 12 = .ok (.istore 4, 2) := by decide +kernel
theorem d4_14 : decode jdk_52_method_16_code 14 = .ok (.iload 4, 2) := by decide +kernel
theorem d4_16 : decode jdk_52_method_16_code 16 = .ok (.iload_n 2, 1) := by decide +kernel
theorem d4_17 : decode jdk_52_method_16_code 17 = .ok (.if_icmp .eq 40, 3) := by decide +kernel
theorem d4_20 : decode jdk_52_method_16_code 20 = .ok (.aload_n 0, 1) := by decide +kernel
theorem d4_21 : decode jdk_52_method_16_code 21 = .ok (.iload_n 1, 1) := by decide +kernel
theorem d4_22 : decode jdk_52_method_16_code 22 = .ok (.iload_n 2, 1) := by decide +kernel
theorem d4_23 : decode jdk_52_method_16_code 23 = .ok (.invokestatic 119, 3) := by decide +kernel
theorem d4_26 : decode jdk_52_method_16_code 26 = .ok (.astore 5, 2) := by decide +kernel
theorem d4_28 : decode jdk_52_method_16_code 28 = .ok (.aload 5, 2) := by decide +kernel
theorem d4_30 : decode jdk_52_method_16_code 30 = .ok (.iload 4, 2) := by decide +kernel
theorem d4_32 : decode jdk_52_method_16_code 32 = .ok (.invokestatic 71, 3) := by decide +kernel
theorem d4_35 : decode jdk_52_method_16_code 35 = .ok (.sipush 255, 3) := by decide +kernel
theorem d4_38 : decode jdk_52_method_16_code 38 = .ok (.if_icmp .gt 16, 3) := by decide +kernel
theorem d4_41 : decode jdk_52_method_16_code 41 = .ok (.aload 5, 2) := by decide +kernel
theorem d4_43 : decode jdk_52_method_16_code 43 = .ok (.iconst 0, 1) := by decide +kernel
theorem d4_44 : decode jdk_52_method_16_code 44 = .ok (.aload_n 3, 1) := by decide +kernel
theorem d4_45 : decode jdk_52_method_16_code 45 = .ok (.iconst 0, 1) := by decide +kernel
theorem d4_46 : decode jdk_52_method_16_code 46 = .ok (.iload_n 2, 1) := by decide +kernel
theorem d4_47 : decode jdk_52_method_16_code 47 = .ok (.invokestatic 123, 3) := by decide +kernel
theorem d4_50 : decode jdk_52_method_16_code 50 = .ok (.iload_n 2, 1) := by decide +kernel
theorem d4_51 : decode jdk_52_method_16_code 51 = .ok (.if_icmp .eq 6, 3) := by decide +kernel
theorem d4_54 : decode jdk_52_method_16_code 54 = .ok (.aload 5, 2) := by decide +kernel
theorem d4_56 : decode jdk_52_method_16_code 56 = .ok (.areturn, 1) := by decide +kernel
theorem d4_57 : decode jdk_52_method_16_code 57 = .ok (.aload_n 3, 1) := by decide +kernel
theorem d4_58 : decode jdk_52_method_16_code 58 = .ok (.areturn, 1) := by decide +kernel
theorem pd_0 : parseMethodDescriptor "([CI[BII)I" = some ⟨[(.array .char), .int, (.array .byte), .int, .int], some .int⟩ := by decide +kernel
theorem ef_4 (m : MethodId) (x0 : Addr) (x1 : Int32) (x2 : Int32) : entryFrame m #[(.ref x0), (.int x1), (.int x2)] 6 = mkF m 0 #[.val (.ref x0), .val (.int x1), .val (.int x2), .unset, .unset, .unset] [] := by first | (simp [entryFrame, mkF, argsToLocals, Value.category]; done) | rfl
def Q4 (Z : State) (ac : Addr) (fc : Nat → Value) (c0 c1 : Int32) (h0 : Heap) (n0 : Nat) (v : Option Value) (h : Heap) (L : List Loc) : Prop := (∃ bb fb, v = some (.ref bb) ∧ OwnA Z h bb .byte 2 fb) ∧ Fr n0 L ∧ Keep h0 h []
set_option maxRecDepth 65536 in
set_option maxHeartbeats 40000000 in
theorem rm4 (l : Launch) (Z : State) (a0 : Array Value) (hw : ∀ d ∈ tables_1, d.before a0 Z = true) (ws : List Jvm.Cond) (ac : Addr) (fc : Nat → Value) (c0 c1 : Int32) (h0 : Heap) (n0 : Nat) (Z0 : n0 ≤ h0.size) (Ac : OwnA Z h0 ac .char 2 fc) (hc0 : fc 0 = .int c0) (hc1 : fc 1 = .int c1) (hb0 : ¬ (255 : Int32) < c0) (hb1 : ¬ (255 : Int32) < c1) :
    MetFree l (⟨"java/lang/StringUTF16", "compress", "([CII)[B"⟩ : MethodName) (head1 (Jvm.Cond.code (⟨"java/lang/StringUTF16", "compress", "([CII)[B"⟩ : MethodName) jdk_52_method_16_code 6 (some (.array .byte)) :: ws) ({ frames := 1, cells := 1, slots := 2, locals := 18 } : Room)) (fun aa_ U => aa_ = #[(.ref ac), (.int (0 : Int32)), (.int (2 : Int32))] ∧ Z.Warmed39 U.vm ∧ U.heap = h0) (fun _ _ _ _ _ => True) (fun _ U o U' => ∃ v L, o = .returned v ∧ Q4 Z ac fc c0 c1 h0 n0 v U'.heap L ∧ FrameEnd U o U' L ({ frames := 1, cells := 1, slots := 2, locals := 18 } : Room).cells ({ frames := 1, cells := 1, slots := 2, locals := 18 } : Room).slots) := by
  refine own_met (Q := fun v h L => Q4 Z ac fc c0 c1 h0 n0 v h L) (plainFor_of_name pn_0) ?_
  intro p e s m below meth c s₁ hx hby hml hret hlk hown hnm hZ X0 e0
  have N0 := Fr.nil n0
  rw [ef_4 m ac (0 : Int32) (2 : Int32)]
  show OwnG p e below s _ _ _ (s₁.setTop (mkF m 0 #[.val (.ref ac), .val (.int (0 : Int32)), .val (.int (2 : Int32)), .unset, .unset, .unset] []))
  refine own_by (fun t kk_ => XS.iloadN X0.here hx rfl (hb hby d4_0) rfl  kk_) ?_
  show OwnG p e below s _ _ _ (s₁.setTop (mkF m 1 #[.val (.ref ac), .val (.int (0 : Int32)), .val (.int (2 : Int32)), .unset, .unset, .unset] [(.int (2 : Int32))]))
  obtain ⟨T1, h1, k1, X1, e1, E1, A1, st1⟩ := newP X0 hx hZ (hw _ (List.mem_of_getElem? (i := 20) rfl)) e0 (g := (mkF m 1 #[.val (.ref ac), .val (.int (0 : Int32)), .val (.int (2 : Int32)), .unset, .unset, .unset] [(.int (2 : Int32))])) rfl (hb hby d4_1) rfl (by decide) (cap := 2) (by decide) (by decide) (by decide) (by decide)
  obtain ⟨bb, g1⟩ : ∃ z, z = h0.size := ⟨_, rfl⟩
  rw [← g1] at A1 st1
  have ne2 : ac ≠ bb := fun q => absurd Ac.lt (by rw [q, g1]; exact Nat.lt_irrefl _)
  have gg_bb : n0 ≤ bb := by rw [g1]; exact Z0
  have gh_bb : h0.size ≤ bb := by rw [g1]; exact (Keep.refl h0 []).1
  have sz1 : n0 ≤ h1.size := Nat.le_trans Z0 E1.1
  refine own_by (fun t kk_ => st1 _ kk_) ?_
  have f3 := OwnA.ext E1 Ac
  have f4 := Keep.ext (Keep.refl h0 []) E1
  have f5 : OwnA Z h1 bb .byte 2 (fun _ => (defaultValue .byte)) := OwnA.new A1 (n := 2) (by decide) rfl
  show OwnG p e below s _ _ _ (T1.setTop (mkF m 3 #[.val (.ref ac), .val (.int (0 : Int32)), .val (.int (2 : Int32)), .unset, .unset, .unset] [(.ref bb)]))
  refine own_by (fun t kk_ => XS.astoreN X1.here hx rfl (hb hby d4_3) rfl rfl (l' := #[.val (.ref ac), .val (.int (0 : Int32)), .val (.int (2 : Int32)), .val (.ref bb), .unset, .unset]) rfl kk_) ?_
  show OwnG p e below s _ _ _ (T1.setTop (mkF m 4 #[.val (.ref ac), .val (.int (0 : Int32)), .val (.int (2 : Int32)), .val (.ref bb), .unset, .unset] []))
  refine own_by (fun t kk_ => XS.aloadN X1.here hx rfl (hb hby d4_4) rfl rfl kk_) ?_
  show OwnG p e below s _ _ _ (T1.setTop (mkF m 5 #[.val (.ref ac), .val (.int (0 : Int32)), .val (.int (2 : Int32)), .val (.ref bb), .unset, .unset] [(.ref ac)]))
  refine own_by (fun t kk_ => XS.iloadN X1.here hx rfl (hb hby d4_5) rfl  kk_) ?_
  show OwnG p e below s _ _ _ (T1.setTop (mkF m 6 #[.val (.ref ac), .val (.int (0 : Int32)), .val (.int (2 : Int32)), .val (.ref bb), .unset, .unset] [(.int (0 : Int32)), (.ref ac)]))
  refine own_by (fun t kk_ => XS.aloadN X1.here hx rfl (hb hby d4_6) rfl rfl kk_) ?_
  show OwnG p e below s _ _ _ (T1.setTop (mkF m 7 #[.val (.ref ac), .val (.int (0 : Int32)), .val (.int (2 : Int32)), .val (.ref bb), .unset, .unset] [(.ref bb), (.int (0 : Int32)), (.ref ac)]))
  refine own_by (fun t kk_ => XS.iconst X1.here hx rfl (hb hby d4_7) kk_) ?_
  show OwnG p e below s _ _ _ (T1.setTop (mkF m 8 #[.val (.ref ac), .val (.int (0 : Int32)), .val (.int (2 : Int32)), .val (.ref bb), .unset, .unset] [(.int (0 : Int32)), (.ref bb), (.int (0 : Int32)), (.ref ac)]))
  refine own_by (fun t kk_ => XS.iloadN X1.here hx rfl (hb hby d4_8) rfl  kk_) ?_
  show OwnG p e below s _ _ _ (T1.setTop (mkF m 9 #[.val (.ref ac), .val (.int (0 : Int32)), .val (.int (2 : Int32)), .val (.ref bb), .unset, .unset] [(.int (2 : Int32)), (.int (0 : Int32)), (.ref bb), (.int (0 : Int32)), (.ref ac)]))
  obtain ⟨_, _, ⟨T6, L6, k6, n6⟩, -, X6, ⟨Lc6, hQ6, l6, y6, z6⟩, st6⟩ := Jvm.LawKit.callS X1 hx (y := (⟨"java/lang/StringUTF16", "compress", "([CI[BII)I"⟩ : MethodName)) hown (mvT hZ (hw _ (List.mem_of_getElem? (i := 21) rfl))) (mvT hZ (hw _ (List.mem_of_getElem? (i := 22) rfl))) (mvT hZ (hw _ (List.mem_of_getElem? (i := 18) rfl))) (mvT hZ (hw _ (List.mem_of_getElem? (i := 23) rfl))) (by decide) (backOf (W := 0) (rm5 l Z a0 hw [] ac bb fc (fun _ => (defaultValue .byte)) c0 c1 h1 n0 sz1 f3 f5 ne2 gg_bb hc0 hc1 hb0 hb1) hZ (hw _ (List.mem_of_getElem? (i := 23) rfl)) (hw _ (List.mem_of_getElem? (i := 18) rfl)) (by decide) (by decide)) (g := (mkF m 9 #[.val (.ref ac), .val (.int (0 : Int32)), .val (.int (2 : Int32)), .val (.ref bb), .unset, .unset] [(.int (2 : Int32)), (.int (0 : Int32)), (.ref bb), (.int (0 : Int32)), (.ref ac)])) rfl (by rw [hml]; rfl) (argsL := [(.ref ac), (.int (0 : Int32)), (.ref bb), (.int (0 : Int32)), (.int (2 : Int32))]) (rest := []) (lenOf pd_0 rfl) rfl (by show 2 * 0 + _ ≤ _; exact Nat.le_of_eq rfl) (hb hby d4_9) (fun _ _ => ⟨rfl, e1, (by decide : 0 + 1 + 0 ≤ _), (by decide : 0 + 2 + 0 ≤ _)⟩)
  dsimp only [Pt.U, Pt.locs, Pt.cells, Pt.slots] at X6 l6 y6 z6 st6 hQ6
  subst l6 y6 z6
  refine own_by (fun t kk_ => st6 _ kk_) ?_
  obtain ⟨rfl, N6q, K6, fb6, A6⟩ := hQ6
  have N6 := Fr.app N0 N6q
  have sz6 : n0 ≤ T6.heap.size := Nat.le_trans sz1 K6.1
  have f7 := OwnA.keep f3 K6 (ninS ne2 nin0)
  have f8 := Keep.trans f4 K6 (allS (Or.inr gh_bb) all0)
  show OwnG p e below s _ _ _ (T6.setTop (mkF m 12 #[.val (.ref ac), .val (.int (0 : Int32)), .val (.int (2 : Int32)), .val (.ref bb), .unset, .unset] [(.int (2 : Int32))]))
  refine own_by (fun t kk_ => XS.istore X6.here hx rfl (hb hby d4_12) rfl (l' := #[.val (.ref ac), .val (.int (0 : Int32)), .val (.int (2 : Int32)), .val (.ref bb), .val (.int (2 : Int32)), .unset]) rfl kk_) ?_
  show OwnG p e below s _ _ _ (T6.setTop (mkF m 14 #[.val (.ref ac), .val (.int (0 : Int32)), .val (.int (2 : Int32)), .val (.ref bb), .val (.int (2 : Int32)), .unset] []))
  refine own_by (fun t kk_ => XS.iload X6.here hx rfl (hb hby d4_14) rfl  kk_) ?_
  show OwnG p e below s _ _ _ (T6.setTop (mkF m 16 #[.val (.ref ac), .val (.int (0 : Int32)), .val (.int (2 : Int32)), .val (.ref bb), .val (.int (2 : Int32)), .unset] [(.int (2 : Int32))]))
  refine own_by (fun t kk_ => XS.iloadN X6.here hx rfl (hb hby d4_16) rfl  kk_) ?_
  show OwnG p e below s _ _ _ (T6.setTop (mkF m 17 #[.val (.ref ac), .val (.int (0 : Int32)), .val (.int (2 : Int32)), .val (.ref bb), .val (.int (2 : Int32)), .unset] [(.int (2 : Int32)), (.int (2 : Int32))]))
  refine own_by (fun t kk_ => XS.icmpYes X6.here hx rfl (pc0 := 17) (pc' := 57) rfl (hb hby d4_17) rfl (teq rfl).1 (by decide) (by decide) kk_) ?_
  show OwnG p e below s _ _ _ (T6.setTop (mkF m 57 #[.val (.ref ac), .val (.int (0 : Int32)), .val (.int (2 : Int32)), .val (.ref bb), .val (.int (2 : Int32)), .unset] []))
  refine own_by (fun t kk_ => XS.aloadN X6.here hx rfl (hb hby d4_57) rfl rfl kk_) ?_
  show OwnG p e below s _ _ _ (T6.setTop (mkF m 58 #[.val (.ref ac), .val (.int (0 : Int32)), .val (.int (2 : Int32)), .val (.ref bb), .val (.int (2 : Int32)), .unset] [(.ref bb)]))
  exact own_outA X6 hx rfl rfl hret hlk (hb hby d4_58) (by show _ ∧ _; rw [(rfl : T6.heap = T6.heap)]; exact ⟨⟨_, _, rfl, A6⟩, N6, f8⟩) (by decide) (by decide)
theorem d6_0 : decode jdk_52_method_15_code 0 = .ok (.iload_n 1, 1) := by decide +kernel
theorem d6_1 : decode jdk_52_method_15_code 1 = .ok (.aload_n 0, 1) := by decide +kernel
theorem d6_2 : decode jdk_52_method_15_code 2 = .ok (.arraylength, 1) := by decide +kernel
theorem d6_3 : decode jdk_52_method_15_code 3 = .ok (.isub, 1) := by decide +kernel
theorem d6_4 : decode jdk_52_method_15_code 4 = .ok (.bipush 31, 2) := by decide +kernel
theorem d6_6 : decode jdk_52_method_15_code 6 = .ok (.iushr, 1) := by decide +kernel
theorem d6_7 : decode jdk_52_method_15_code 7 = .ok (.i2b, 1) := by decide +kernel
theorem d6_8 : decode jdk_52_method_15_code 8 = .ok (.ireturn, 1) := by decide +kernel
theorem ef_6 (m : MethodId) (x0 : Addr) (x1 : Int32) : entryFrame m #[(.ref x0), (.int x1)] 2 = mkF m 0 #[.val (.ref x0), .val (.int x1)] [] := by first | (simp [entryFrame, mkF, argsToLocals, Value.category]; done) | rfl
def Q6 (Z : State) (ab : Addr) (fb : Nat → Value) (h0 : Heap) (n0 : Nat) (v : Option Value) (h : Heap) (L : List Loc) : Prop := (∃ z, v = some (.int z)) ∧ Fr n0 L ∧ h = h0
set_option maxRecDepth 65536 in
set_option maxHeartbeats 40000000 in
theorem rm6 (l : Launch) (Z : State) (a0 : Array Value) (hw : ∀ d ∈ tables_1, d.before a0 Z = true) (ws : List Jvm.Cond) (ab : Addr) (fb : Nat → Value) (h0 : Heap) (n0 : Nat) (Z0 : n0 ≤ h0.size) (Ab : OwnA Z h0 ab .byte 2 fb) :
    MetFree l (⟨"java/lang/StringUTF16", "coderFromArrayLen", "([BI)B"⟩ : MethodName) (head1 (Jvm.Cond.code (⟨"java/lang/StringUTF16", "coderFromArrayLen", "([BI)B"⟩ : MethodName) jdk_52_method_15_code 2 (some .byte) :: ws) ({ frames := 0, cells := 0, slots := 0, locals := 0 } : Room)) (fun aa_ U => aa_ = #[(.ref ab), (.int (2 : Int32))] ∧ Z.Warmed39 U.vm ∧ U.heap = h0) (fun _ _ _ _ _ => True) (fun _ U o U' => ∃ v L, o = .returned v ∧ Q6 Z ab fb h0 n0 v U'.heap L ∧ FrameEnd U o U' L ({ frames := 0, cells := 0, slots := 0, locals := 0 } : Room).cells ({ frames := 0, cells := 0, slots := 0, locals := 0 } : Room).slots) := by
  refine own_met (Q := fun v h L => Q6 Z ab fb h0 n0 v h L) (plainFor_of_name pn_0) ?_
  intro p e s m below meth c s₁ hx hby hml hret hlk hown hnm hZ X0 e0
  have N0 := Fr.nil n0
  rw [ef_6 m ab (2 : Int32)]
  show OwnG p e below s _ _ _ (s₁.setTop (mkF m 0 #[.val (.ref ab), .val (.int (2 : Int32))] []))
  refine own_by (fun t kk_ => XS.iloadN X0.here hx rfl (hb hby d6_0) rfl  kk_) ?_
  show OwnG p e below s _ _ _ (s₁.setTop (mkF m 1 #[.val (.ref ab), .val (.int (2 : Int32))] [(.int (2 : Int32))]))
  refine own_by (fun t kk_ => XS.aloadN X0.here hx rfl (hb hby d6_1) rfl rfl kk_) ?_
  show OwnG p e below s _ _ _ (s₁.setTop (mkF m 2 #[.val (.ref ab), .val (.int (2 : Int32))] [(.ref ab), (.int (2 : Int32))]))
  refine own_by (fun t kk_ => own_len X0 hx hZ e0 Ab (z := (2 : Int32)) rfl (g := (mkF m 2 #[.val (.ref ab), .val (.int (2 : Int32))] [(.ref ab), (.int (2 : Int32))])) rfl rfl (hb hby d6_2) _ kk_) ?_
  show OwnG p e below s _ _ _ (s₁.setTop (mkF m 3 #[.val (.ref ab), .val (.int (2 : Int32))] [(.int (2 : Int32)), (.int (2 : Int32))]))
  refine own_by (fun t kk_ => XS.isub X0.here hx rfl (hb hby d6_3) rfl kk_) ?_
  show OwnG p e below s _ _ _ (s₁.setTop (mkF m 4 #[.val (.ref ab), .val (.int (2 : Int32))] [(.int ((2 : Int32) - (2 : Int32)))]))
  refine own_by (fun t kk_ => XS.bipush X0.here hx rfl (hb hby d6_4) kk_) ?_
  show OwnG p e below s _ _ _ (s₁.setTop (mkF m 6 #[.val (.ref ab), .val (.int (2 : Int32))] [(.int (31 : Int32)), (.int ((2 : Int32) - (2 : Int32)))]))
  refine own_by (fun t kk_ => XS.iushr X0.here hx rfl (hb hby d6_6) rfl kk_) ?_
  show OwnG p e below s _ _ _ (s₁.setTop (mkF m 7 #[.val (.ref ab), .val (.int (2 : Int32))] [(.int ((((2 : Int32) - (2 : Int32)).toUInt32 >>> ((31 : Int32) &&& 31).toUInt32).toInt32))]))
  refine own_by (fun t kk_ => XS.i2b X0.here hx rfl (hb hby d6_7) rfl kk_) ?_
  show OwnG p e below s _ _ _ (s₁.setTop (mkF m 8 #[.val (.ref ab), .val (.int (2 : Int32))] [(.int (((((2 : Int32) - (2 : Int32)).toUInt32 >>> ((31 : Int32) &&& 31).toUInt32).toInt32).toInt8.toInt32))]))
  exact own_outN X0 hx hret (by simp) hlk (hb hby d6_8) rfl (⟨⟨_, rfl⟩, N0, e0⟩) (by decide) (by decide)
theorem d2_0 : decode jdk_42_method_149_code 0 = .ok (.aload_n 0, 1) := by decide +kernel
theorem d2_1 : decode jdk_42_method_149_code 1 = .ok (.invokespecial 1, 3) := by decide +kernel
theorem d2_4 : decode jdk_42_method_149_code 4 = .ok (.iload_n 3, 1) := by decide +kernel
theorem d2_5 : decode jdk_42_method_149_code 5 = .ok (.ifCond .ne 22, 3) := by decide +kernel
theorem d2_8 : decode jdk_42_method_149_code 8 = .ok (.aload_n 0, 1) := by decide +kernel
theorem d2_9 : decode jdk_42_method_149_code 9 = .ok (.ldc 7, 2) := by decide +kernel
theorem d2_11 : decode jdk_42_method_149_code 11 = .ok (.getfield 9, 3) := by decide +kernel
theorem d2_14 : decode jdk_42_method_149_code 14 = .ok (.putfield 9, 3) := by decide +kernel
theorem d2_17 : decode jdk_42_method_149_code 17 = .ok (.aload_n 0, 1) := by decide +kernel
theorem d2_18 : decode jdk_42_method_149_code 18 = .ok (.ldc 7, 2) := by decide +kernel
theorem d2_20 : decode jdk_42_method_149_code 20 = .ok (.getfield 15, 3) := by decide +kernel
theorem d2_23 : decode jdk_42_method_149_code 23 = .ok (.putfield 15, 3) := by decide +kernel
theorem d2_26 : decode jdk_42_method_149_code 26 = .ok (.return_, 1) := by decide +kernel
theorem d2_27 : decode jdk_42_method_149_code 27 = .ok (.getstatic 38, 3) := by decide +kernel
theorem d2_30 : decode jdk_42_method_149_code 30 = .ok (.ifCond .eq 28, 3) := by decide +kernel
theorem d2_33 : decode jdk_42_method_149_code 33 = .ok (.aload_n 1, 1) := by decide +kernel
theorem d2_34 : decode jdk_42_method_149_code 34 = .ok (.iload_n 2, 1) := by decide +kernel
theorem d2_35 : decode jdk_42_method_149_code 35 = .ok (.iload_n 3, 1) := by decide +kernel
theorem d2_36 : decode jdk_42_method_149_code 36 = .ok (.invokestatic 177, 3) := by decide +kernel
theorem d2_39 : decode jdk_42_method_149_code 39 = .ok (.astore 5, 2) := by decide +kernel
theorem d2_41 : decode jdk_42_method_149_code 41 = .ok (.aload_n 0, 1) := by decide +kernel
theorem d2_42 : decode jdk_42_method_149_code 42 = .ok (.aload 5, 2) := by decide +kernel
theorem d2_44 : decode jdk_42_method_149_code 44 = .ok (.iload_n 3, 1) := by decide +kernel
theorem d2_45 : decode jdk_42_method_149_code 45 = .ok (.invokestatic 47, 3) := by decide +kernel
theorem d2_48 : decode jdk_42_method_149_code 48 = .ok (.putfield 15, 3) := by decide +kernel
theorem d2_51 : decode jdk_42_method_149_code 51 = .ok (.aload_n 0, 1) := by decide +kernel
theorem d2_52 : decode jdk_42_method_149_code 52 = .ok (.aload 5, 2) := by decide +kernel
theorem d2_54 : decode jdk_42_method_149_code 54 = .ok (.putfield 9, 3) := by decide +kernel
theorem d2_57 : decode jdk_42_method_149_code 57 = .ok (.return_, 1) := by decide +kernel
theorem d2_58 : decode jdk_42_method_149_code 58 = .ok (.aload_n 0, 1) := by decide +kernel
theorem d2_59 : decode jdk_42_method_149_code 59 = .ok (.iconst 1, 1) := by decide +kernel
theorem d2_60 : decode jdk_42_method_149_code 60 = .ok (.putfield 15, 3) := by decide +kernel
theorem d2_63 : decode jdk_42_method_149_code 63 = .ok (.aload_n 0, 1) := by decide +kernel
theorem d2_64 : decode jdk_42_method_149_code 64 = .ok (.aload_n 1, 1) := by decide +kernel
theorem d2_65 : decode jdk_42_method_149_code 65 = .ok (.iload_n 2, 1) := by decide +kernel
theorem d2_66 : decode jdk_42_method_149_code 66 = .ok (.iload_n 3, 1) := by decide +kernel
theorem d2_67 : decode jdk_42_method_149_code 67 = .ok (.invokestatic 180, 3) := by decide +kernel
theorem d2_70 : decode jdk_42_method_149_code 70 = .ok (.putfield 9, 3) := by decide +kernel
theorem d2_73 : decode jdk_42_method_149_code 73 = .ok (.return_, 1) := by decide +kernel
theorem pn_1 : plainName "java/lang/String" = true := by first | (simp [plainName, overriddenIn]; done) | decide +kernel
theorem pd_1 : parseMethodDescriptor "()V" = some ⟨[], none⟩ := by decide +kernel
theorem pd_2 : parseMethodDescriptor "([CII)[B" = some ⟨[(.array .char), .int, .int], some (.array .byte)⟩ := by decide +kernel
theorem pd_3 : parseMethodDescriptor "([BI)B" = some ⟨[(.array .byte), .int], some .byte⟩ := by decide +kernel
theorem ef_2 (m : MethodId) (x0 : Addr) (x1 : Addr) (x2 : Int32) (x3 : Int32) : entryFrame m #[(.ref x0), (.ref x1), (.int x2), (.int x3), .null] 6 = mkF m 0 #[.val (.ref x0), .val (.ref x1), .val (.int x2), .val (.int x3), .val .null, .unset] [] := by first | (simp [entryFrame, mkF, argsToLocals, Value.category]; done) | rfl
def Q2 (Z : State) (a1 ac : Addr) (fc : Nat → Value) (c0 c1 cz : Int32) (h0 : Heap) (n0 : Nat) (v : Option Value) (h : Heap) (L : List Loc) : Prop := v = none ∧ Fr n0 L
set_option maxRecDepth 65536 in
set_option maxHeartbeats 40000000 in
theorem rm2 (l : Launch) (Z : State) (a0 : Array Value) (hw : ∀ d ∈ tables_1, d.before a0 Z = true) (ws : List Jvm.Cond) (a1 ac : Addr) (fc : Nat → Value) (c0 c1 cz : Int32) (h0 : Heap) (n0 : Nat) (Z0 : n0 ≤ h0.size) (EX : Exa Z h0 a1 "java/lang/String") (Fco : Fld Z h0 a1 "java/lang/String" "coder" "B" (.int 0)) (Fva : Fld Z h0 a1 "java/lang/String" "value" "[B" .null) (Ac : OwnA Z h0 ac .char 2 fc) (SC : Sta Z h0 "java/lang/String" "COMPACT_STRINGS" "Z" (.int cz)) (g1 : n0 ≤ a1) (hcz : ¬ cz = 0) (hc0 : fc 0 = .int c0) (hc1 : fc 1 = .int c1) (hb0 : ¬ (255 : Int32) < c0) (hb1 : ¬ (255 : Int32) < c1) :
    MetFree l (⟨"java/lang/String", "<init>", "([CIILjava/lang/Void;)V"⟩ : MethodName) (head1 (Jvm.Cond.code (⟨"java/lang/String", "<init>", "([CIILjava/lang/Void;)V"⟩ : MethodName) jdk_42_method_149_code 6 none :: ws) ({ frames := 2, cells := 1, slots := 2, locals := 36 } : Room)) (fun aa_ U => aa_ = #[(.ref a1), (.ref ac), (.int (0 : Int32)), (.int (2 : Int32)), .null] ∧ Z.Warmed39 U.vm ∧ U.heap = h0) (fun _ _ _ _ _ => True) (fun _ U o U' => ∃ v L, o = .returned v ∧ Q2 Z a1 ac fc c0 c1 cz h0 n0 v U'.heap L ∧ FrameEnd U o U' L ({ frames := 2, cells := 1, slots := 2, locals := 36 } : Room).cells ({ frames := 2, cells := 1, slots := 2, locals := 36 } : Room).slots) := by
  refine own_met (Q := fun v h L => Q2 Z a1 ac fc c0 c1 cz h0 n0 v h L) (plainFor_of_name pn_1) ?_
  intro p e s m below meth c s₁ hx hby hml hret hlk hown hnm hZ X0 e0
  have N0 := Fr.nil n0
  rw [ef_2 m a1 ac (0 : Int32) (2 : Int32)]
  show OwnG p e below s _ _ _ (s₁.setTop (mkF m 0 #[.val (.ref a1), .val (.ref ac), .val (.int (0 : Int32)), .val (.int (2 : Int32)), .val .null, .unset] []))
  refine own_by (fun t kk_ => XS.aloadN X0.here hx rfl (hb hby d2_0) rfl rfl kk_) ?_
  show OwnG p e below s _ _ _ (s₁.setTop (mkF m 1 #[.val (.ref a1), .val (.ref ac), .val (.int (0 : Int32)), .val (.int (2 : Int32)), .val .null, .unset] [(.ref a1)]))
  obtain ⟨T1, X1, e1, st1⟩ := initO X0 hx hZ hown (hw _ (List.mem_of_getElem? (i := 12) rfl)) (hw _ (List.mem_of_getElem? (i := 13) rfl)) (hw _ (List.mem_of_getElem? (i := 14) rfl)) e0 (g := (mkF m 1 #[.val (.ref a1), .val (.ref ac), .val (.int (0 : Int32)), .val (.int (2 : Int32)), .val .null, .unset] [(.ref a1)])) rfl (by rw [hml]; rfl) rfl (hb hby d2_1) (by decide) (W := 0) (by show 2 * 0 + _ ≤ _; exact Nat.le_of_eq rfl) (by decide)
  refine own_by (fun t kk_ => st1 _ kk_) ?_
  show OwnG p e below s _ _ _ (T1.setTop (mkF m 4 #[.val (.ref a1), .val (.ref ac), .val (.int (0 : Int32)), .val (.int (2 : Int32)), .val .null, .unset] []))
  refine own_by (fun t kk_ => XS.iloadN X1.here hx rfl (hb hby d2_4) rfl  kk_) ?_
  show OwnG p e below s _ _ _ (T1.setTop (mkF m 5 #[.val (.ref a1), .val (.ref ac), .val (.int (0 : Int32)), .val (.int (2 : Int32)), .val .null, .unset] [(.int (2 : Int32))]))
  refine own_by (fun t kk_ => XS.ifYes X1.here hx rfl (pc0 := 5) (pc' := 27) rfl (hb hby d2_5) rfl ((if0 _ _).trans (feq (by decide)).2) (by decide) (by decide) kk_) ?_
  show OwnG p e below s _ _ _ (T1.setTop (mkF m 27 #[.val (.ref a1), .val (.ref ac), .val (.int (0 : Int32)), .val (.int (2 : Int32)), .val .null, .unset] []))
  obtain ⟨T2, X2, e2, st2⟩ := getS2 X1 hx hZ hown (host := "") (Or.inl (hw _ (List.mem_of_getElem? (i := 15) rfl))) Via.refl e1 SC (g := (mkF m 27 #[.val (.ref a1), .val (.ref ac), .val (.int (0 : Int32)), .val (.int (2 : Int32)), .val .null, .unset] [])) rfl (hb hby d2_27)
  refine own_by (fun t kk_ => st2 _ kk_) ?_
  show OwnG p e below s _ _ _ (T2.setTop (mkF m 30 #[.val (.ref a1), .val (.ref ac), .val (.int (0 : Int32)), .val (.int (2 : Int32)), .val .null, .unset] [(.int cz)]))
  refine own_by (fun t kk_ => XS.ifNo X2.here hx rfl (hb hby d2_30) rfl ((if0 _ _).trans (feq hcz).1) kk_) ?_
  show OwnG p e below s _ _ _ (T2.setTop (mkF m 33 #[.val (.ref a1), .val (.ref ac), .val (.int (0 : Int32)), .val (.int (2 : Int32)), .val .null, .unset] []))
  refine own_by (fun t kk_ => XS.aloadN X2.here hx rfl (hb hby d2_33) rfl rfl kk_) ?_
  show OwnG p e below s _ _ _ (T2.setTop (mkF m 34 #[.val (.ref a1), .val (.ref ac), .val (.int (0 : Int32)), .val (.int (2 : Int32)), .val .null, .unset] [(.ref ac)]))
  refine own_by (fun t kk_ => XS.iloadN X2.here hx rfl (hb hby d2_34) rfl  kk_) ?_
  show OwnG p e below s _ _ _ (T2.setTop (mkF m 35 #[.val (.ref a1), .val (.ref ac), .val (.int (0 : Int32)), .val (.int (2 : Int32)), .val .null, .unset] [(.int (0 : Int32)), (.ref ac)]))
  refine own_by (fun t kk_ => XS.iloadN X2.here hx rfl (hb hby d2_35) rfl  kk_) ?_
  show OwnG p e below s _ _ _ (T2.setTop (mkF m 36 #[.val (.ref a1), .val (.ref ac), .val (.int (0 : Int32)), .val (.int (2 : Int32)), .val .null, .unset] [(.int (2 : Int32)), (.int (0 : Int32)), (.ref ac)]))
  obtain ⟨_, _, ⟨T3, L3, k3, n3⟩, -, X3, ⟨Lc3, hQ3, l3, y3, z3⟩, st3⟩ := Jvm.LawKit.callS X2 hx (y := (⟨"java/lang/StringUTF16", "compress", "([CII)[B"⟩ : MethodName)) hown (mvT hZ (hw _ (List.mem_of_getElem? (i := 16) rfl))) (mvT hZ (hw _ (List.mem_of_getElem? (i := 17) rfl))) (mvT hZ (hw _ (List.mem_of_getElem? (i := 18) rfl))) (mvT hZ (hw _ (List.mem_of_getElem? (i := 19) rfl))) (by decide) (backOf (W := 0) (rm4 l Z a0 hw [] ac fc c0 c1 h0 n0 Z0 Ac hc0 hc1 hb0 hb1) hZ (hw _ (List.mem_of_getElem? (i := 19) rfl)) (hw _ (List.mem_of_getElem? (i := 18) rfl)) (by decide) (by decide)) (g := (mkF m 36 #[.val (.ref a1), .val (.ref ac), .val (.int (0 : Int32)), .val (.int (2 : Int32)), .val .null, .unset] [(.int (2 : Int32)), (.int (0 : Int32)), (.ref ac)])) rfl (by rw [hml]; rfl) (argsL := [(.ref ac), (.int (0 : Int32)), (.int (2 : Int32))]) (rest := []) (lenOf pd_2 rfl) rfl (by show 2 * 0 + _ ≤ _; exact Nat.le_of_eq rfl) (hb hby d2_36) (fun _ _ => ⟨rfl, e2, (by decide : 0 + 1 ≤ _), (by decide : 0 + 2 ≤ _)⟩)
  dsimp only [Pt.U, Pt.locs, Pt.cells, Pt.slots] at X3 l3 y3 z3 st3 hQ3
  subst l3 y3 z3
  refine own_by (fun t kk_ => st3 _ kk_) ?_
  obtain ⟨⟨bb, fb, rfl, A3⟩, N3q, K3⟩ := hQ3
  have N3 := Fr.app N0 N3q
  have sz3 : n0 ≤ T3.heap.size := Nat.le_trans Z0 K3.1
  have f4 := Exa.keep EX K3
  have f5 := Fld.keep Fco K3 nin0
  have f6 := Fld.keep Fva K3 nin0
  have f7 := OwnA.keep Ac K3 nin0
  show OwnG p e below s _ _ _ (T3.setTop (mkF m 39 #[.val (.ref a1), .val (.ref ac), .val (.int (0 : Int32)), .val (.int (2 : Int32)), .val .null, .unset] [(.ref bb)]))
  refine own_by (fun t kk_ => XS.astore X3.here hx rfl (hb hby d2_39) rfl rfl (l' := #[.val (.ref a1), .val (.ref ac), .val (.int (0 : Int32)), .val (.int (2 : Int32)), .val .null, .val (.ref bb)]) rfl kk_) ?_
  show OwnG p e below s _ _ _ (T3.setTop (mkF m 41 #[.val (.ref a1), .val (.ref ac), .val (.int (0 : Int32)), .val (.int (2 : Int32)), .val .null, .val (.ref bb)] []))
  refine own_by (fun t kk_ => XS.aloadN X3.here hx rfl (hb hby d2_41) rfl rfl kk_) ?_
  show OwnG p e below s _ _ _ (T3.setTop (mkF m 42 #[.val (.ref a1), .val (.ref ac), .val (.int (0 : Int32)), .val (.int (2 : Int32)), .val .null, .val (.ref bb)] [(.ref a1)]))
  refine own_by (fun t kk_ => XS.aload X3.here hx rfl (hb hby d2_42) rfl rfl kk_) ?_
  show OwnG p e below s _ _ _ (T3.setTop (mkF m 44 #[.val (.ref a1), .val (.ref ac), .val (.int (0 : Int32)), .val (.int (2 : Int32)), .val .null, .val (.ref bb)] [(.ref bb), (.ref a1)]))
  refine own_by (fun t kk_ => XS.iloadN X3.here hx rfl (hb hby d2_44) rfl  kk_) ?_
  show OwnG p e below s _ _ _ (T3.setTop (mkF m 45 #[.val (.ref a1), .val (.ref ac), .val (.int (0 : Int32)), .val (.int (2 : Int32)), .val .null, .val (.ref bb)] [(.int (2 : Int32)), (.ref bb), (.ref a1)]))
  obtain ⟨_, _, ⟨T9, L9, k9, n9⟩, -, X9, ⟨Lc9, hQ9, l9, y9, z9⟩, st9⟩ := Jvm.LawKit.callS X3 hx (y := (⟨"java/lang/StringUTF16", "coderFromArrayLen", "([BI)B"⟩ : MethodName)) hown (mvT hZ (hw _ (List.mem_of_getElem? (i := 24) rfl))) (mvT hZ (hw _ (List.mem_of_getElem? (i := 25) rfl))) (mvT hZ (hw _ (List.mem_of_getElem? (i := 18) rfl))) (mvT hZ (hw _ (List.mem_of_getElem? (i := 26) rfl))) (by decide) (backOf (W := 1) (rm6 l Z a0 hw [] bb fb T3.heap n0 sz3 A3) hZ (hw _ (List.mem_of_getElem? (i := 26) rfl)) (hw _ (List.mem_of_getElem? (i := 18) rfl)) (by decide) (by decide)) (g := (mkF m 45 #[.val (.ref a1), .val (.ref ac), .val (.int (0 : Int32)), .val (.int (2 : Int32)), .val .null, .val (.ref bb)] [(.int (2 : Int32)), (.ref bb), (.ref a1)])) rfl (by rw [hml]; rfl) (argsL := [(.ref bb), (.int (2 : Int32))]) (rest := [(.ref a1)]) (lenOf pd_3 rfl) rfl (by show 2 * 0 + _ ≤ _; exact Nat.le_of_eq rfl) (hb hby d2_45) (fun _ _ => ⟨rfl, (rfl : T3.heap = T3.heap), (by decide : 0 + 1 + 0 ≤ _), (by decide : 0 + 2 + 0 ≤ _)⟩)
  dsimp only [Pt.U, Pt.locs, Pt.cells, Pt.slots] at X9 l9 y9 z9 st9 hQ9
  subst l9 y9 z9
  refine own_by (fun t kk_ => st9 _ kk_) ?_
  obtain ⟨⟨z9, rfl⟩, N9q, hh9⟩ := hQ9
  have N9 := Fr.app N3 N9q
  have f10 := f4
  rw [← hh9] at f10
  have f11 := f5
  rw [← hh9] at f11
  have f12 := f6
  rw [← hh9] at f12
  have f13 := f7
  rw [← hh9] at f13
  have f14 := A3
  rw [← hh9] at f14
  have sz9 : n0 ≤ T9.heap.size := by rw [hh9]; exact sz3
  show OwnG p e below s _ _ _ (T9.setTop (mkF m 48 #[.val (.ref a1), .val (.ref ac), .val (.int (0 : Int32)), .val (.int (2 : Int32)), .val .null, .val (.ref bb)] [(.int z9), (.ref a1)]))
  obtain ⟨T15, h15, X15, e15, W15, st15⟩ := putFN X9 hx hZ hown (hw _ (List.mem_of_getElem? (i := 27) rfl)) Via.refl (rfl : T9.heap = T9.heap) f11 f10 (Or.inr ⟨(hw _ (List.mem_of_getElem? (i := 28) rfl)), rfl, hnm⟩) (hw _ (List.mem_of_getElem? (i := 3) rfl)) (ty := .byte) (v := (.int z9)) (v' := (.int (nar .byte z9))) (by decide) rfl (fits_nar_byte _) (g := (mkF m 48 #[.val (.ref a1), .val (.ref ac), .val (.int (0 : Int32)), .val (.int (2 : Int32)), .val .null, .val (.ref bb)] [(.int z9), (.ref a1)])) rfl rfl (hb hby d2_48)
  refine own_by (fun t kk_ => st15 _ kk_) ?_
  have f16 := Exa.wr W15 f10
  have f18 := Fld.other W15 f12 (Or.inr (slot_ne (Or.inr (hw _ (List.mem_of_getElem? (i := 30) rfl))) (Or.inr (hw _ (List.mem_of_getElem? (i := 28) rfl))) (by decide) (t := (.array .byte)) (t' := .byte) (by decide) (by decide)))
  have f19 := Fld.same W15 f11
  have N15 := Fr.snoc X15 N9 g1
  have sz15 : n0 ≤ h15.size := by rw [W15.size]; exact sz9
  show OwnG p e below s _ _ _ (T15.setTop (mkF m 51 #[.val (.ref a1), .val (.ref ac), .val (.int (0 : Int32)), .val (.int (2 : Int32)), .val .null, .val (.ref bb)] []))
  refine own_by (fun t kk_ => XS.aloadN X15.here hx rfl (hb hby d2_51) rfl rfl kk_) ?_
  show OwnG p e below s _ _ _ (T15.setTop (mkF m 52 #[.val (.ref a1), .val (.ref ac), .val (.int (0 : Int32)), .val (.int (2 : Int32)), .val .null, .val (.ref bb)] [(.ref a1)]))
  refine own_by (fun t kk_ => XS.aload X15.here hx rfl (hb hby d2_52) rfl rfl kk_) ?_
  show OwnG p e below s _ _ _ (T15.setTop (mkF m 54 #[.val (.ref a1), .val (.ref ac), .val (.int (0 : Int32)), .val (.int (2 : Int32)), .val .null, .val (.ref bb)] [(.ref bb), (.ref a1)]))
  obtain ⟨T20, h20, X20, e20, W20, st20⟩ := putF X15 hx hZ hown (host := "") (Or.inl (hw _ (List.mem_of_getElem? (i := 29) rfl))) Via.refl e15 f18 f16 (Or.inr ⟨(hw _ (List.mem_of_getElem? (i := 30) rfl)), rfl, hnm⟩) (hw _ (List.mem_of_getElem? (i := 3) rfl)) (ty := (.array .byte)) (by decide) rfl rfl (g := (mkF m 54 #[.val (.ref a1), .val (.ref ac), .val (.int (0 : Int32)), .val (.int (2 : Int32)), .val .null, .val (.ref bb)] [(.ref bb), (.ref a1)])) rfl rfl (hb hby d2_54)
  refine own_by (fun t kk_ => st20 _ kk_) ?_
  have f21 := Exa.wr W20 f16
  have f22 := Fld.other W20 f19 (Or.inr (slot_ne (Or.inr (hw _ (List.mem_of_getElem? (i := 28) rfl))) (Or.inr (hw _ (List.mem_of_getElem? (i := 30) rfl))) (by decide) (t := .byte) (t' := (.array .byte)) (by decide) (by decide)))
  have f24 := Fld.same W20 f18
  have N20 := Fr.snoc X20 N15 g1
  have sz20 : n0 ≤ h20.size := by rw [W20.size]; exact sz15
  show OwnG p e below s _ _ _ (T20.setTop (mkF m 57 #[.val (.ref a1), .val (.ref ac), .val (.int (0 : Int32)), .val (.int (2 : Int32)), .val .null, .val (.ref bb)] []))
  exact own_outV X20 hx hret hlk (hb hby d2_57) (⟨rfl, N20⟩) (by decide) (by decide)
theorem d1_0 : decode jdk_42_method_3_code 0 = .ok (.aload_n 0, 1) := by decide +kernel
theorem d1_1 : decode jdk_42_method_3_code 1 = .ok (.aload_n 1, 1) := by decide +kernel
theorem d1_2 : decode jdk_42_method_3_code 2 = .ok (.iconst 0, 1) := by decide +kernel
theorem d1_3 : decode jdk_42_method_3_code 3 = .ok (.aload_n 1, 1) := by decide +kernel
theorem d1_4 : decode jdk_42_method_3_code 4 = .ok (.arraylength, 1) := by decide +kernel
theorem d1_5 : decode jdk_42_method_3_code 5 = .ok (.aconst_null, 1) := by decide +kernel
theorem d1_6 : decode jdk_42_method_3_code 6 = .ok (.invokespecial 27, 3) := by decide +kernel
theorem d1_9 : decode jdk_42_method_3_code 9 = .ok (.return_, 1) := by decide +kernel
theorem pd_4 : parseMethodDescriptor "([CIILjava/lang/Void;)V" = some ⟨[(.array .char), .int, .int, (.object "java/lang/Void")], none⟩ := by decide +kernel
theorem ef_1 (m : MethodId) (x0 : Addr) (x1 : Addr) : entryFrame m #[(.ref x0), (.ref x1)] 2 = mkF m 0 #[.val (.ref x0), .val (.ref x1)] [] := by first | (simp [entryFrame, mkF, argsToLocals, Value.category]; done) | rfl
def Q1 (Z : State) (a1 ac : Addr) (fc : Nat → Value) (c0 c1 cz : Int32) (h0 : Heap) (n0 : Nat) (v : Option Value) (h : Heap) (L : List Loc) : Prop := v = none ∧ Fr n0 L
set_option maxRecDepth 65536 in
set_option maxHeartbeats 40000000 in
theorem rm1 (l : Launch) (Z : State) (a0 : Array Value) (hw : ∀ d ∈ tables_1, d.before a0 Z = true) (ws : List Jvm.Cond) (a1 ac : Addr) (fc : Nat → Value) (c0 c1 cz : Int32) (h0 : Heap) (n0 : Nat) (Z0 : n0 ≤ h0.size) (EX : Exa Z h0 a1 "java/lang/String") (Fco : Fld Z h0 a1 "java/lang/String" "coder" "B" (.int 0)) (Fva : Fld Z h0 a1 "java/lang/String" "value" "[B" .null) (Ac : OwnA Z h0 ac .char 2 fc) (SC : Sta Z h0 "java/lang/String" "COMPACT_STRINGS" "Z" (.int cz)) (g1 : n0 ≤ a1) (hcz : ¬ cz = 0) (hc0 : fc 0 = .int c0) (hc1 : fc 1 = .int c1) (hb0 : ¬ (255 : Int32) < c0) (hb1 : ¬ (255 : Int32) < c1) :
    MetFree l (⟨"java/lang/String", "<init>", "([C)V"⟩ : MethodName) (head1 (Jvm.Cond.code (⟨"java/lang/String", "<init>", "([C)V"⟩ : MethodName) jdk_42_method_3_code 2 none :: ws) ({ frames := 3, cells := 1, slots := 2, locals := 53 } : Room)) (fun aa_ U => aa_ = #[(.ref a1), (.ref ac)] ∧ Z.Warmed39 U.vm ∧ U.heap = h0) (fun _ _ _ _ _ => True) (fun _ U o U' => ∃ v L, o = .returned v ∧ Q1 Z a1 ac fc c0 c1 cz h0 n0 v U'.heap L ∧ FrameEnd U o U' L ({ frames := 3, cells := 1, slots := 2, locals := 53 } : Room).cells ({ frames := 3, cells := 1, slots := 2, locals := 53 } : Room).slots) := by
  refine own_met (Q := fun v h L => Q1 Z a1 ac fc c0 c1 cz h0 n0 v h L) (plainFor_of_name pn_1) ?_
  intro p e s m below meth c s₁ hx hby hml hret hlk hown hnm hZ X0 e0
  have N0 := Fr.nil n0
  rw [ef_1 m a1 ac]
  show OwnG p e below s _ _ _ (s₁.setTop (mkF m 0 #[.val (.ref a1), .val (.ref ac)] []))
  refine own_by (fun t kk_ => XS.aloadN X0.here hx rfl (hb hby d1_0) rfl rfl kk_) ?_
  show OwnG p e below s _ _ _ (s₁.setTop (mkF m 1 #[.val (.ref a1), .val (.ref ac)] [(.ref a1)]))
  refine own_by (fun t kk_ => XS.aloadN X0.here hx rfl (hb hby d1_1) rfl rfl kk_) ?_
  show OwnG p e below s _ _ _ (s₁.setTop (mkF m 2 #[.val (.ref a1), .val (.ref ac)] [(.ref ac), (.ref a1)]))
  refine own_by (fun t kk_ => XS.iconst X0.here hx rfl (hb hby d1_2) kk_) ?_
  show OwnG p e below s _ _ _ (s₁.setTop (mkF m 3 #[.val (.ref a1), .val (.ref ac)] [(.int (0 : Int32)), (.ref ac), (.ref a1)]))
  refine own_by (fun t kk_ => XS.aloadN X0.here hx rfl (hb hby d1_3) rfl rfl kk_) ?_
  show OwnG p e below s _ _ _ (s₁.setTop (mkF m 4 #[.val (.ref a1), .val (.ref ac)] [(.ref ac), (.int (0 : Int32)), (.ref ac), (.ref a1)]))
  refine own_by (fun t kk_ => own_len X0 hx hZ e0 Ac (z := (2 : Int32)) rfl (g := (mkF m 4 #[.val (.ref a1), .val (.ref ac)] [(.ref ac), (.int (0 : Int32)), (.ref ac), (.ref a1)])) rfl rfl (hb hby d1_4) _ kk_) ?_
  show OwnG p e below s _ _ _ (s₁.setTop (mkF m 5 #[.val (.ref a1), .val (.ref ac)] [(.int (2 : Int32)), (.int (0 : Int32)), (.ref ac), (.ref a1)]))
  refine own_by (fun t kk_ => XS.aconstNull X0.here hx rfl (hb hby d1_5) kk_) ?_
  show OwnG p e below s _ _ _ (s₁.setTop (mkF m 6 #[.val (.ref a1), .val (.ref ac)] [.null, (.int (2 : Int32)), (.int (0 : Int32)), (.ref ac), (.ref a1)]))
  obtain ⟨_, _, ⟨T1, L1, k1, n1⟩, -, X1, ⟨Lc1, hQ1, l1, y1, z1⟩, st1⟩ := X0.specialBack hx (y := (⟨"java/lang/String", "<init>", "([CIILjava/lang/Void;)V"⟩ : MethodName)) rfl hown (mvT hZ (hw _ (List.mem_of_getElem? (i := 8) rfl))) (mvT hZ (hw _ (List.mem_of_getElem? (i := 9) rfl))) (mvT hZ (hw _ (List.mem_of_getElem? (i := 11) rfl))) (by decide) (backOf (W := 0) (rm2 l Z a0 hw [] a1 ac fc c0 c1 cz h0 n0 Z0 EX Fco Fva Ac SC g1 hcz hc0 hc1 hb0 hb1) hZ (hw _ (List.mem_of_getElem? (i := 11) rfl)) (hw _ (List.mem_of_getElem? (i := 4) rfl)) (by decide) (by decide)) (g := (mkF m 6 #[.val (.ref a1), .val (.ref ac)] [.null, (.int (2 : Int32)), (.int (0 : Int32)), (.ref ac), (.ref a1)])) rfl (by rw [hml]; rfl) (Steps.refl _) (a := a1) (argsL := [(.ref ac), (.int (0 : Int32)), (.int (2 : Int32)), .null]) (rest := []) (lenOf pd_4 rfl) rfl (by show 2 * 0 + _ ≤ _; exact Nat.le_of_eq rfl) (hb hby d1_6) (fun _ _ => ⟨rfl, e0, (by decide : 0 + 1 ≤ _), (by decide : 0 + 2 ≤ _)⟩)
  dsimp only [Pt.U, Pt.locs, Pt.cells, Pt.slots] at X1 l1 y1 z1 st1 hQ1
  subst l1 y1 z1
  refine own_by (fun t kk_ => st1.trans kk_) ?_
  obtain ⟨rfl, N1q⟩ := hQ1
  have N1 := Fr.app N0 N1q
  show OwnG p e below s _ _ _ (T1.setTop (mkF m 9 #[.val (.ref a1), .val (.ref ac)] []))
  exact own_outV X1 hx hret hlk (hb hby d1_9) (⟨rfl, N1⟩) (by decide) (by decide)
theorem d7_0 : decode prog_45_method_2_code 0 = .ok (.dload_n 1, 1) := by decide +kernel
theorem d7_1 : decode prog_45_method_2_code 1 = .ok (.dconst 0, 1) := by decide +kernel
theorem d7_2 : decode prog_45_method_2_code 2 = .ok (.dcmp .l, 1) := by decide +kernel
theorem d7_3 : decode prog_45_method_2_code 3 = .ok (.ifCond .lt 11, 3) := by decide +kernel
theorem d7_6 : decode prog_45_method_2_code 6 = .ok (.dload_n 1, 1) := by decide +kernel
theorem d7_7 : decode prog_45_method_2_code 7 = .ok (.ldc2_w 9, 3) := by decide +kernel
theorem d7_10 : decode prog_45_method_2_code 10 = .ok (.dcmp .g, 1) := by decide +kernel
theorem d7_11 : decode prog_45_method_2_code 11 = .ok (.ifCond .lt 18, 3) := by decide +kernel
theorem d7_14 : decode prog_45_method_2_code 14 = .ok (.new 11, 3) := by decide +kernel
theorem d7_17 : decode prog_45_method_2_code 17 = .ok (.dup, 1) := by decide +kernel
theorem d7_18 : decode prog_45_method_2_code 18 = .ok (.aload_n 0, 1) := by decide +kernel
theorem d7_19 : decode prog_45_method_2_code 19 = .ok (.dload_n 1, 1) := by decide +kernel
theorem d7_20 : decode prog_45_method_2_code 20 = .ok (.invokedynamic 13, 5) := by decide +kernel
theorem d7_25 : decode prog_45_method_2_code 25 = .ok (.invokespecial 17, 3) := by decide +kernel
theorem d7_28 : decode prog_45_method_2_code 28 = .ok (.athrow, 1) := by decide +kernel
theorem d7_29 : decode prog_45_method_2_code 29 = .ok (.dload_n 1, 1) := by decide +kernel
theorem d7_30 : decode prog_45_method_2_code 30 = .ok (.dreturn, 1) := by decide +kernel
theorem pn_2 : plainName "com/example/etsinta/etsinta/search/Parameters" = true := by first | (simp [plainName, overriddenIn]; done) | decide +kernel
theorem ef_7 (m : MethodId) (x0 : Addr) (x1 : UInt64) : entryFrame m #[(.ref x0), (.double x1)] 3 = mkF m 0 #[.val (.ref x0), .val (.double x1), .second] [] := by first | (simp [entryFrame, mkF, argsToLocals, Value.category]; done) | rfl
def Q7 (Z : State) (a1 : Addr) (vv : UInt64) (h0 : Heap) (n0 : Nat) (v : Option Value) (h : Heap) (L : List Loc) : Prop := v = some (.double vv) ∧ Fr n0 L ∧ h = h0
set_option maxRecDepth 65536 in
set_option maxHeartbeats 40000000 in
theorem rm7 (l : Launch) (Z : State) (a0 : Array Value) (hw : ∀ d ∈ tables_1, d.before a0 Z = true) (ws : List Jvm.Cond) (a1 : Addr) (vv : UInt64) (h0 : Heap) (n0 : Nat) (Z0 : n0 ≤ h0.size) (h1 : ¬ cmpValue (FP.dcmp vv FP.dconst0) .l < 0) (h2 : cmpValue (FP.dcmp vv 9218868437227405312) .g < 0) :
    MetFree l (⟨"com/example/etsinta/etsinta/search/Parameters", "finiteAtLeastZero", "(Ljava/lang/String;D)D"⟩ : MethodName) (head1 (Jvm.Cond.code (⟨"com/example/etsinta/etsinta/search/Parameters", "finiteAtLeastZero", "(Ljava/lang/String;D)D"⟩ : MethodName) prog_45_method_2_code 3 (some .double) :: ws) ({ frames := 0, cells := 0, slots := 0, locals := 0 } : Room)) (fun aa_ U => aa_ = #[(.ref a1), (.double vv)] ∧ Z.Warmed39 U.vm ∧ U.heap = h0) (fun _ _ _ _ _ => True) (fun _ U o U' => ∃ v L, o = .returned v ∧ Q7 Z a1 vv h0 n0 v U'.heap L ∧ FrameEnd U o U' L ({ frames := 0, cells := 0, slots := 0, locals := 0 } : Room).cells ({ frames := 0, cells := 0, slots := 0, locals := 0 } : Room).slots) := by
  refine own_met (Q := fun v h L => Q7 Z a1 vv h0 n0 v h L) (plainFor_of_name pn_2) ?_
  intro p e s m below meth c s₁ hx hby hml hret hlk hown hnm hZ X0 e0
  have N0 := Fr.nil n0
  rw [ef_7 m a1 vv]
  show OwnG p e below s _ _ _ (s₁.setTop (mkF m 0 #[.val (.ref a1), .val (.double vv), .second] []))
  refine own_by (fun t kk_ => XS.dloadN X0.here hx rfl (hb hby d7_0) rfl  kk_) ?_
  show OwnG p e below s _ _ _ (s₁.setTop (mkF m 1 #[.val (.ref a1), .val (.double vv), .second] [(.double vv)]))
  refine own_by (fun t kk_ => XS.dconst0 X0.here hx rfl (hb hby d7_1) rfl kk_) ?_
  show OwnG p e below s _ _ _ (s₁.setTop (mkF m 2 #[.val (.ref a1), .val (.double vv), .second] [(.double FP.dconst0), (.double vv)]))
  refine own_by (fun t kk_ => XS.dcmpS X0.here hx rfl (hb hby d7_2) rfl rfl kk_) ?_
  show OwnG p e below s _ _ _ (s₁.setTop (mkF m 3 #[.val (.ref a1), .val (.double vv), .second] [(.int (cmpValue (FP.dcmp vv FP.dconst0) .l))]))
  refine own_by (fun t kk_ => XS.ifNo X0.here hx rfl (hb hby d7_3) rfl ((if0 _ _).trans (flt h1).1) kk_) ?_
  show OwnG p e below s _ _ _ (s₁.setTop (mkF m 6 #[.val (.ref a1), .val (.double vv), .second] []))
  refine own_by (fun t kk_ => XS.dloadN X0.here hx rfl (hb hby d7_6) rfl  kk_) ?_
  show OwnG p e below s _ _ _ (s₁.setTop (mkF m 7 #[.val (.ref a1), .val (.double vv), .second] [(.double vv)]))
  refine own_by (fun t kk_ => X0.ldc2DoubleC hx hown (mvT hZ (hw _ (List.mem_of_getElem? (i := 35) rfl))) (g := (mkF m 7 #[.val (.ref a1), .val (.double vv), .second] [(.double vv)])) rfl (hb hby d7_7) _ kk_) ?_
  show OwnG p e below s _ _ _ (s₁.setTop (mkF m 10 #[.val (.ref a1), .val (.double vv), .second] [(.double (9218868437227405312 : UInt64)), (.double vv)]))
  refine own_by (fun t kk_ => XS.dcmpS X0.here hx rfl (hb hby d7_10) rfl rfl kk_) ?_
  show OwnG p e below s _ _ _ (s₁.setTop (mkF m 11 #[.val (.ref a1), .val (.double vv), .second] [(.int (cmpValue (FP.dcmp vv (9218868437227405312 : UInt64)) .g))]))
  refine own_by (fun t kk_ => XS.ifYes X0.here hx rfl (pc0 := 11) (pc' := 29) rfl (hb hby d7_11) rfl ((if0 _ _).trans (tlt h2).1) (by decide) (by decide) kk_) ?_
  show OwnG p e below s _ _ _ (s₁.setTop (mkF m 29 #[.val (.ref a1), .val (.double vv), .second] []))
  refine own_by (fun t kk_ => XS.dloadN X0.here hx rfl (hb hby d7_29) rfl  kk_) ?_
  show OwnG p e below s _ _ _ (s₁.setTop (mkF m 30 #[.val (.ref a1), .val (.double vv), .second] [(.double vv)]))
  exact own_outD X0 hx hret hlk (hb hby d7_30) (⟨rfl, N0, e0⟩) (by decide) (by decide)
theorem pn_3 : plainName "com/example/etsinta/etsinta/search/ParametersFiniteAtLeastZeroPinLaw" = true := by first | (simp [plainName, overriddenIn]; done) | decide +kernel
theorem pd_5 : parseMethodDescriptor "([C)V" = some ⟨[(.array .char)], none⟩ := by decide +kernel
theorem pd_6 : parseMethodDescriptor "(Ljava/lang/String;D)D" = some ⟨[(.object "java/lang/String"), .double], some .double⟩ := by decide +kernel
theorem ef_0 (m : MethodId) (x0 : Int64) (x1 : Int32) (x2 : Int32) (x3 : Int32) : entryFrame m #[(.long x0), (.int x1), (.int x2), (.int x3)] maxLocals = mkF m 0 #[.val (.long x0), .second, .val (.int x1), .val (.int x2), .val (.int x3), .unset, .unset, .unset, .unset, .unset, .unset, .unset, .unset, .unset] [] := by first | (simp [entryFrame, mkF, argsToLocals, Value.category, maxLocals]; done) | rfl
def Q0 (Z : State) (p1 : Int64) (p2 p3 p4 cz : Int32) (h0 : Heap) (n0 : Nat) (v : Option Value) (h : Heap) (L : List Loc) : Prop := v = some (.int (1 : Int32)) ∧ Fr n0 L
set_option maxRecDepth 65536 in
set_option maxHeartbeats 40000000 in
theorem rm0 (l : Launch) (Z : State) (a0 : Array Value) (hw : ∀ d ∈ tables_1, d.before a0 Z = true) (ws : List Jvm.Cond) (p1 : Int64) (p2 p3 p4 cz : Int32) (h0 : Heap) (n0 : Nat) (Z0 : n0 ≤ h0.size) (SC : Sta Z h0 "java/lang/String" "COMPACT_STRINGS" "Z" (.int cz)) (hcz : ¬ cz = 0) :
    MetFree l x (head1 (Jvm.Cond.code x code maxLocals ret :: ws) room_1) (fun aa_ U => aa_ = #[(.long p1), (.int p2), (.int p3), (.int p4)] ∧ Z.Warmed39 U.vm ∧ U.heap = h0) (fun _ _ _ _ _ => True) (fun _ U o U' => ∃ v L, o = .returned v ∧ Q0 Z p1 p2 p3 p4 cz h0 n0 v U'.heap L ∧ FrameEnd U o U' L room_1.cells room_1.slots) := by
  refine own_met (Q := fun v h L => Q0 Z p1 p2 p3 p4 cz h0 n0 v h L) (plainFor_of_name pn_3) ?_
  intro p e s m below meth c s₁ hx hby hml hret hlk hown hnm hZ X0 e0
  have N0 := Fr.nil n0
  rw [ef_0 m p1 p2 p3 p4]
  have hn0 : n0 ≤ s.heap.size := by
    have q : s₁.heap.size ≤ s.heap.size + 0 := X0.same.2.2.1
    rw [e0] at q
    exact Nat.le_trans Z0 q
  show OwnG p e below s _ _ _ (s₁.setTop (mkF m 0 #[.val (.long p1), .second, .val (.int p2), .val (.int p3), .val (.int p4), .unset, .unset, .unset, .unset, .unset, .unset, .unset, .unset, .unset] []))
  refine own_by (fun t kk_ => XS.lloadN X0.here hx rfl (hb hby at_0) rfl  kk_) ?_
  show OwnG p e below s _ _ _ (s₁.setTop (mkF m 1 #[.val (.long p1), .second, .val (.int p2), .val (.int p3), .val (.int p4), .unset, .unset, .unset, .unset, .unset, .unset, .unset, .unset, .unset] [(.long p1)]))
  refine own_by (fun t kk_ => X0.ldc2Long hx hown (mvT hZ (hw _ (List.mem_of_getElem? (i := 0) rfl))) (g := (mkF m 1 #[.val (.long p1), .second, .val (.int p2), .val (.int p3), .val (.int p4), .unset, .unset, .unset, .unset, .unset, .unset, .unset, .unset, .unset] [(.long p1)])) rfl (hb hby at_1) _ kk_) ?_
  show OwnG p e below s _ _ _ (s₁.setTop (mkF m 4 #[.val (.long p1), .second, .val (.int p2), .val (.int p3), .val (.int p4), .unset, .unset, .unset, .unset, .unset, .unset, .unset, .unset, .unset] [(.long (9223372036854775807 : Int64)), (.long p1)]))
  refine own_by (fun t kk_ => XS.land X0.here hx rfl (hb hby at_4) rfl kk_) ?_
  show OwnG p e below s _ _ _ (s₁.setTop (mkF m 5 #[.val (.long p1), .second, .val (.int p2), .val (.int p3), .val (.int p4), .unset, .unset, .unset, .unset, .unset, .unset, .unset, .unset, .unset] [(.long (p1 &&& (9223372036854775807 : Int64)))]))
  have hwh := own_nn p1
  generalize p1 &&& (9223372036854775807 : Int64) = wh at hwh ⊢
  show OwnG p e below s _ _ _ (s₁.setTop (mkF m 5 #[.val (.long p1), .second, .val (.int p2), .val (.int p3), .val (.int p4), .unset, .unset, .unset, .unset, .unset, .unset, .unset, .unset, .unset] [(.long wh)]))
  refine own_by (fun t kk_ => XS.lstore X0.here hx rfl (hb hby at_5) rfl (l' := #[.val (.long p1), .second, .val (.int p2), .val (.int p3), .val (.int p4), .val (.long wh), .second, .unset, .unset, .unset, .unset, .unset, .unset, .unset]) rfl kk_) ?_
  show OwnG p e below s _ _ _ (s₁.setTop (mkF m 7 #[.val (.long p1), .second, .val (.int p2), .val (.int p3), .val (.int p4), .val (.long wh), .second, .unset, .unset, .unset, .unset, .unset, .unset, .unset] []))
  refine own_by (fun t kk_ => XS.iconst X0.here hx rfl (hb hby at_7) kk_) ?_
  show OwnG p e below s _ _ _ (s₁.setTop (mkF m 8 #[.val (.long p1), .second, .val (.int p2), .val (.int p3), .val (.int p4), .val (.long wh), .second, .unset, .unset, .unset, .unset, .unset, .unset, .unset] [(.int (1 : Int32))]))
  refine own_by (fun t kk_ => XS.iloadN X0.here hx rfl (hb hby at_8) rfl  kk_) ?_
  show OwnG p e below s _ _ _ (s₁.setTop (mkF m 9 #[.val (.long p1), .second, .val (.int p2), .val (.int p3), .val (.int p4), .val (.long wh), .second, .unset, .unset, .unset, .unset, .unset, .unset, .unset] [(.int p2), (.int (1 : Int32))]))
  refine own_by (fun t kk_ => XS.bipush X0.here hx rfl (hb hby at_9) kk_) ?_
  show OwnG p e below s _ _ _ (s₁.setTop (mkF m 11 #[.val (.long p1), .second, .val (.int p2), .val (.int p3), .val (.int p4), .val (.long wh), .second, .unset, .unset, .unset, .unset, .unset, .unset, .unset] [(.int (7 : Int32)), (.int p2), (.int (1 : Int32))]))
  refine own_by (fun t kk_ => XS.iand X0.here hx rfl (hb hby at_11) rfl kk_) ?_
  show OwnG p e below s _ _ _ (s₁.setTop (mkF m 12 #[.val (.long p1), .second, .val (.int p2), .val (.int p3), .val (.int p4), .val (.long wh), .second, .unset, .unset, .unset, .unset, .unset, .unset, .unset] [(.int (p2 &&& (7 : Int32))), (.int (1 : Int32))]))
  refine own_by (fun t kk_ => XS.iadd X0.here hx rfl (hb hby at_12) rfl kk_) ?_
  show OwnG p e below s _ _ _ (s₁.setTop (mkF m 13 #[.val (.long p1), .second, .val (.int p2), .val (.int p3), .val (.int p4), .val (.long wh), .second, .unset, .unset, .unset, .unset, .unset, .unset, .unset] [(.int ((1 : Int32) + (p2 &&& (7 : Int32))))]))
  have hdv := own_dv p2
  generalize (1 : Int32) + (p2 &&& (7 : Int32)) = dv at hdv ⊢
  show OwnG p e below s _ _ _ (s₁.setTop (mkF m 13 #[.val (.long p1), .second, .val (.int p2), .val (.int p3), .val (.int p4), .val (.long wh), .second, .unset, .unset, .unset, .unset, .unset, .unset, .unset] [(.int dv)]))
  refine own_by (fun t kk_ => XS.istore X0.here hx rfl (hb hby at_13) rfl (l' := #[.val (.long p1), .second, .val (.int p2), .val (.int p3), .val (.int p4), .val (.long wh), .second, .val (.int dv), .unset, .unset, .unset, .unset, .unset, .unset]) rfl kk_) ?_
  show OwnG p e below s _ _ _ (s₁.setTop (mkF m 15 #[.val (.long p1), .second, .val (.int p2), .val (.int p3), .val (.int p4), .val (.long wh), .second, .val (.int dv), .unset, .unset, .unset, .unset, .unset, .unset] []))
  refine own_by (fun t kk_ => XS.lload X0.here hx rfl (hb hby at_15) rfl  kk_) ?_
  show OwnG p e below s _ _ _ (s₁.setTop (mkF m 17 #[.val (.long p1), .second, .val (.int p2), .val (.int p3), .val (.int p4), .val (.long wh), .second, .val (.int dv), .unset, .unset, .unset, .unset, .unset, .unset] [(.long wh)]))
  refine own_by (fun t kk_ => XS.l2dS X0.here hx rfl (hb hby at_17) rfl rfl kk_) ?_
  show OwnG p e below s _ _ _ (s₁.setTop (mkF m 18 #[.val (.long p1), .second, .val (.int p2), .val (.int p3), .val (.int p4), .val (.long wh), .second, .val (.int dv), .unset, .unset, .unset, .unset, .unset, .unset] [(.double (FP.l2d wh))]))
  refine own_by (fun t kk_ => XS.iload X0.here hx rfl (hb hby at_18) rfl  kk_) ?_
  show OwnG p e below s _ _ _ (s₁.setTop (mkF m 20 #[.val (.long p1), .second, .val (.int p2), .val (.int p3), .val (.int p4), .val (.long wh), .second, .val (.int dv), .unset, .unset, .unset, .unset, .unset, .unset] [(.int dv), (.double (FP.l2d wh))]))
  refine own_by (fun t kk_ => XS.i2dS X0.here hx rfl (hb hby at_20) rfl rfl kk_) ?_
  show OwnG p e below s _ _ _ (s₁.setTop (mkF m 21 #[.val (.long p1), .second, .val (.int p2), .val (.int p3), .val (.int p4), .val (.long wh), .second, .val (.int dv), .unset, .unset, .unset, .unset, .unset, .unset] [(.double (FP.i2d dv)), (.double (FP.l2d wh))]))
  refine own_by (fun t kk_ => XS.ddivS X0.here hx rfl (hb hby at_21) rfl (own_fin hdv).noNaN rfl kk_) ?_
  show OwnG p e below s _ _ _ (s₁.setTop (mkF m 22 #[.val (.long p1), .second, .val (.int p2), .val (.int p3), .val (.int p4), .val (.long wh), .second, .val (.int dv), .unset, .unset, .unset, .unset, .unset, .unset] [(.double (FP.ddiv (FP.l2d wh) (FP.i2d dv)))]))
  refine own_by (fun t kk_ => XS.dstore X0.here hx rfl (hb hby at_22) rfl (l' := #[.val (.long p1), .second, .val (.int p2), .val (.int p3), .val (.int p4), .val (.long wh), .second, .val (.int dv), .val (.double (FP.ddiv (FP.l2d wh) (FP.i2d dv))), .second, .unset, .unset, .unset, .unset]) rfl kk_) ?_
  show OwnG p e below s _ _ _ (s₁.setTop (mkF m 24 #[.val (.long p1), .second, .val (.int p2), .val (.int p3), .val (.int p4), .val (.long wh), .second, .val (.int dv), .val (.double (FP.ddiv (FP.l2d wh) (FP.i2d dv))), .second, .unset, .unset, .unset, .unset] []))
  refine own_by (fun t kk_ => XS.iconst X0.here hx rfl (hb hby at_24) kk_) ?_
  show OwnG p e below s _ _ _ (s₁.setTop (mkF m 25 #[.val (.long p1), .second, .val (.int p2), .val (.int p3), .val (.int p4), .val (.long wh), .second, .val (.int dv), .val (.double (FP.ddiv (FP.l2d wh) (FP.i2d dv))), .second, .unset, .unset, .unset, .unset] [(.int (2 : Int32))]))
  obtain ⟨T1, h1, k1, X1, e1, E1, A1, st1⟩ := newP X0 hx hZ (hw _ (List.mem_of_getElem? (i := 1) rfl)) e0 (g := (mkF m 25 #[.val (.long p1), .second, .val (.int p2), .val (.int p3), .val (.int p4), .val (.long wh), .second, .val (.int dv), .val (.double (FP.ddiv (FP.l2d wh) (FP.i2d dv))), .second, .unset, .unset, .unset, .unset] [(.int (2 : Int32))])) rfl (hb hby at_25) rfl (by decide) (cap := 2) (by decide) (by decide) (by decide) (by decide)
  obtain ⟨ac, g1⟩ : ∃ z, z = h0.size := ⟨_, rfl⟩
  rw [← g1] at A1 st1
  have gg_ac : n0 ≤ ac := by rw [g1]; exact Z0
  have sz1 : n0 ≤ h1.size := Nat.le_trans Z0 E1.1
  refine own_by (fun t kk_ => st1 _ kk_) ?_
  have f2 := Sta.ext E1 SC
  have f3 : OwnA Z h1 ac .char 2 (fun _ => (defaultValue .char)) := OwnA.new A1 (n := 2) (by decide) rfl
  show OwnG p e below s _ _ _ (T1.setTop (mkF m 27 #[.val (.long p1), .second, .val (.int p2), .val (.int p3), .val (.int p4), .val (.long wh), .second, .val (.int dv), .val (.double (FP.ddiv (FP.l2d wh) (FP.i2d dv))), .second, .unset, .unset, .unset, .unset] [(.ref ac)]))
  refine own_by (fun t kk_ => XS.astore X1.here hx rfl (hb hby at_27) rfl rfl (l' := #[.val (.long p1), .second, .val (.int p2), .val (.int p3), .val (.int p4), .val (.long wh), .second, .val (.int dv), .val (.double (FP.ddiv (FP.l2d wh) (FP.i2d dv))), .second, .val (.ref ac), .unset, .unset, .unset]) rfl kk_) ?_
  show OwnG p e below s _ _ _ (T1.setTop (mkF m 29 #[.val (.long p1), .second, .val (.int p2), .val (.int p3), .val (.int p4), .val (.long wh), .second, .val (.int dv), .val (.double (FP.ddiv (FP.l2d wh) (FP.i2d dv))), .second, .val (.ref ac), .unset, .unset, .unset] []))
  refine own_by (fun t kk_ => XS.aload X1.here hx rfl (hb hby at_29) rfl rfl kk_) ?_
  show OwnG p e below s _ _ _ (T1.setTop (mkF m 31 #[.val (.long p1), .second, .val (.int p2), .val (.int p3), .val (.int p4), .val (.long wh), .second, .val (.int dv), .val (.double (FP.ddiv (FP.l2d wh) (FP.i2d dv))), .second, .val (.ref ac), .unset, .unset, .unset] [(.ref ac)]))
  refine own_by (fun t kk_ => XS.iconst X1.here hx rfl (hb hby at_31) kk_) ?_
  show OwnG p e below s _ _ _ (T1.setTop (mkF m 32 #[.val (.long p1), .second, .val (.int p2), .val (.int p3), .val (.int p4), .val (.long wh), .second, .val (.int dv), .val (.double (FP.ddiv (FP.l2d wh) (FP.i2d dv))), .second, .val (.ref ac), .unset, .unset, .unset] [(.int (0 : Int32)), (.ref ac)]))
  refine own_by (fun t kk_ => XS.iloadN X1.here hx rfl (hb hby at_32) rfl  kk_) ?_
  show OwnG p e below s _ _ _ (T1.setTop (mkF m 33 #[.val (.long p1), .second, .val (.int p2), .val (.int p3), .val (.int p4), .val (.long wh), .second, .val (.int dv), .val (.double (FP.ddiv (FP.l2d wh) (FP.i2d dv))), .second, .val (.ref ac), .unset, .unset, .unset] [(.int p3), (.int (0 : Int32)), (.ref ac)]))
  refine own_by (fun t kk_ => XS.sipush X1.here hx rfl (hb hby at_33) kk_) ?_
  show OwnG p e below s _ _ _ (T1.setTop (mkF m 36 #[.val (.long p1), .second, .val (.int p2), .val (.int p3), .val (.int p4), .val (.long wh), .second, .val (.int dv), .val (.double (FP.ddiv (FP.l2d wh) (FP.i2d dv))), .second, .val (.ref ac), .unset, .unset, .unset] [(.int (255 : Int32)), (.int p3), (.int (0 : Int32)), (.ref ac)]))
  refine own_by (fun t kk_ => XS.iand X1.here hx rfl (hb hby at_36) rfl kk_) ?_
  show OwnG p e below s _ _ _ (T1.setTop (mkF m 37 #[.val (.long p1), .second, .val (.int p2), .val (.int p3), .val (.int p4), .val (.long wh), .second, .val (.int dv), .val (.double (FP.ddiv (FP.l2d wh) (FP.i2d dv))), .second, .val (.ref ac), .unset, .unset, .unset] [(.int (p3 &&& (255 : Int32))), (.int (0 : Int32)), (.ref ac)]))
  refine own_by (fun t kk_ => XS.i2c X1.here hx rfl (hb hby at_37) rfl kk_) ?_
  show OwnG p e below s _ _ _ (T1.setTop (mkF m 38 #[.val (.long p1), .second, .val (.int p2), .val (.int p3), .val (.int p4), .val (.long wh), .second, .val (.int dv), .val (.double (FP.ddiv (FP.l2d wh) (FP.i2d dv))), .second, .val (.ref ac), .unset, .unset, .unset] [(.int ((p3 &&& (255 : Int32)).toUInt32.toUInt16.toUInt32.toInt32)), (.int (0 : Int32)), (.ref ac)]))
  obtain ⟨T4, h4, X4, e4, W4, A4, st4⟩ := own_stC X1 hx hZ e1 f3 (j := (0 : Int32)) (i := 0) ⟨by decide, rfl, by decide⟩ (g := (mkF m 38 #[.val (.long p1), .second, .val (.int p2), .val (.int p3), .val (.int p4), .val (.long wh), .second, .val (.int dv), .val (.double (FP.ddiv (FP.l2d wh) (FP.i2d dv))), .second, .val (.ref ac), .unset, .unset, .unset] [(.int ((p3 &&& (255 : Int32)).toUInt32.toUInt16.toUInt32.toInt32)), (.int (0 : Int32)), (.ref ac)])) rfl rfl (hb hby at_38)
  refine own_by (fun t kk_ => st4 _ kk_) ?_
  have f5 := Sta.wr W4 f2
  have N4 := Fr.snoc X4 N0 gg_ac
  have sz4 : n0 ≤ h4.size := by rw [W4.size]; exact sz1
  show OwnG p e below s _ _ _ (T4.setTop (mkF m 39 #[.val (.long p1), .second, .val (.int p2), .val (.int p3), .val (.int p4), .val (.long wh), .second, .val (.int dv), .val (.double (FP.ddiv (FP.l2d wh) (FP.i2d dv))), .second, .val (.ref ac), .unset, .unset, .unset] []))
  refine own_by (fun t kk_ => XS.aload X4.here hx rfl (hb hby at_39) rfl rfl kk_) ?_
  show OwnG p e below s _ _ _ (T4.setTop (mkF m 41 #[.val (.long p1), .second, .val (.int p2), .val (.int p3), .val (.int p4), .val (.long wh), .second, .val (.int dv), .val (.double (FP.ddiv (FP.l2d wh) (FP.i2d dv))), .second, .val (.ref ac), .unset, .unset, .unset] [(.ref ac)]))
  refine own_by (fun t kk_ => XS.iconst X4.here hx rfl (hb hby at_41) kk_) ?_
  show OwnG p e below s _ _ _ (T4.setTop (mkF m 42 #[.val (.long p1), .second, .val (.int p2), .val (.int p3), .val (.int p4), .val (.long wh), .second, .val (.int dv), .val (.double (FP.ddiv (FP.l2d wh) (FP.i2d dv))), .second, .val (.ref ac), .unset, .unset, .unset] [(.int (1 : Int32)), (.ref ac)]))
  refine own_by (fun t kk_ => XS.iload X4.here hx rfl (hb hby at_42) rfl  kk_) ?_
  show OwnG p e below s _ _ _ (T4.setTop (mkF m 44 #[.val (.long p1), .second, .val (.int p2), .val (.int p3), .val (.int p4), .val (.long wh), .second, .val (.int dv), .val (.double (FP.ddiv (FP.l2d wh) (FP.i2d dv))), .second, .val (.ref ac), .unset, .unset, .unset] [(.int p4), (.int (1 : Int32)), (.ref ac)]))
  refine own_by (fun t kk_ => XS.sipush X4.here hx rfl (hb hby at_44) kk_) ?_
  show OwnG p e below s _ _ _ (T4.setTop (mkF m 47 #[.val (.long p1), .second, .val (.int p2), .val (.int p3), .val (.int p4), .val (.long wh), .second, .val (.int dv), .val (.double (FP.ddiv (FP.l2d wh) (FP.i2d dv))), .second, .val (.ref ac), .unset, .unset, .unset] [(.int (255 : Int32)), (.int p4), (.int (1 : Int32)), (.ref ac)]))
  refine own_by (fun t kk_ => XS.iand X4.here hx rfl (hb hby at_47) rfl kk_) ?_
  show OwnG p e below s _ _ _ (T4.setTop (mkF m 48 #[.val (.long p1), .second, .val (.int p2), .val (.int p3), .val (.int p4), .val (.long wh), .second, .val (.int dv), .val (.double (FP.ddiv (FP.l2d wh) (FP.i2d dv))), .second, .val (.ref ac), .unset, .unset, .unset] [(.int (p4 &&& (255 : Int32))), (.int (1 : Int32)), (.ref ac)]))
  refine own_by (fun t kk_ => XS.i2c X4.here hx rfl (hb hby at_48) rfl kk_) ?_
  show OwnG p e below s _ _ _ (T4.setTop (mkF m 49 #[.val (.long p1), .second, .val (.int p2), .val (.int p3), .val (.int p4), .val (.long wh), .second, .val (.int dv), .val (.double (FP.ddiv (FP.l2d wh) (FP.i2d dv))), .second, .val (.ref ac), .unset, .unset, .unset] [(.int ((p4 &&& (255 : Int32)).toUInt32.toUInt16.toUInt32.toInt32)), (.int (1 : Int32)), (.ref ac)]))
  obtain ⟨T7, h7, X7, e7, W7, A7, st7⟩ := own_stC X4 hx hZ e4 A4 (j := (1 : Int32)) (i := 1) ⟨by decide, rfl, by decide⟩ (g := (mkF m 49 #[.val (.long p1), .second, .val (.int p2), .val (.int p3), .val (.int p4), .val (.long wh), .second, .val (.int dv), .val (.double (FP.ddiv (FP.l2d wh) (FP.i2d dv))), .second, .val (.ref ac), .unset, .unset, .unset] [(.int ((p4 &&& (255 : Int32)).toUInt32.toUInt16.toUInt32.toInt32)), (.int (1 : Int32)), (.ref ac)])) rfl rfl (hb hby at_49)
  refine own_by (fun t kk_ => st7 _ kk_) ?_
  have f8 := Sta.wr W7 f5
  have N7 := Fr.snoc X7 N4 gg_ac
  have sz7 : n0 ≤ h7.size := by rw [W7.size]; exact sz4
  show OwnG p e below s _ _ _ (T7.setTop (mkF m 50 #[.val (.long p1), .second, .val (.int p2), .val (.int p3), .val (.int p4), .val (.long wh), .second, .val (.int dv), .val (.double (FP.ddiv (FP.l2d wh) (FP.i2d dv))), .second, .val (.ref ac), .unset, .unset, .unset] []))
  obtain ⟨T10, h10, X10, e10, E10, A10, D10, -, st10⟩ := newO X7 hx hZ hown (hw _ (List.mem_of_getElem? (i := 2) rfl)) (hw _ (List.mem_of_getElem? (i := 3) rfl)) (hw _ (List.mem_of_getElem? (i := 4) rfl)) e7 (g := (mkF m 50 #[.val (.long p1), .second, .val (.int p2), .val (.int p3), .val (.int p4), .val (.long wh), .second, .val (.int dv), .val (.double (FP.ddiv (FP.l2d wh) (FP.i2d dv))), .second, .val (.ref ac), .unset, .unset, .unset] [])) rfl (hb hby at_50) (by decide) (by decide)
  obtain ⟨sb, g10⟩ : ∃ z, z = h7.size := ⟨_, rfl⟩
  rw [← g10] at A10 D10 st10
  have ne11 : ac ≠ sb := fun q => absurd A7.lt (by rw [q, g10]; exact Nat.lt_irrefl _)
  have gg_sb : n0 ≤ sb := by rw [g10]; exact sz7
  have sz10 : n0 ≤ h10.size := Nat.le_trans sz7 E10.1
  refine own_by (fun t kk_ => st10 _ kk_) ?_
  have f12 := Sta.ext E10 f8
  have f13 := OwnA.ext E10 A7
  have f14 : Fld Z h10 sb "java/lang/String" "coder" "B" (.int (0 : Int32)) := D10 (Or.inr (hw _ (List.mem_of_getElem? (i := 28) rfl))) (ty := .byte) (by decide)
  have f15 : Fld Z h10 sb "java/lang/String" "value" "[B" .null := D10 (Or.inr (hw _ (List.mem_of_getElem? (i := 30) rfl))) (ty := (.array .byte)) (by decide)
  show OwnG p e below s _ _ _ (T10.setTop (mkF m 53 #[.val (.long p1), .second, .val (.int p2), .val (.int p3), .val (.int p4), .val (.long wh), .second, .val (.int dv), .val (.double (FP.ddiv (FP.l2d wh) (FP.i2d dv))), .second, .val (.ref ac), .unset, .unset, .unset] [(.ref sb)]))
  refine own_by (fun t kk_ => XS.dup X10.here hx rfl (hb hby at_53) rfl rfl kk_) ?_
  show OwnG p e below s _ _ _ (T10.setTop (mkF m 54 #[.val (.long p1), .second, .val (.int p2), .val (.int p3), .val (.int p4), .val (.long wh), .second, .val (.int dv), .val (.double (FP.ddiv (FP.l2d wh) (FP.i2d dv))), .second, .val (.ref ac), .unset, .unset, .unset] [(.ref sb), (.ref sb)]))
  refine own_by (fun t kk_ => XS.aload X10.here hx rfl (hb hby at_54) rfl rfl kk_) ?_
  show OwnG p e below s _ _ _ (T10.setTop (mkF m 56 #[.val (.long p1), .second, .val (.int p2), .val (.int p3), .val (.int p4), .val (.long wh), .second, .val (.int dv), .val (.double (FP.ddiv (FP.l2d wh) (FP.i2d dv))), .second, .val (.ref ac), .unset, .unset, .unset] [(.ref ac), (.ref sb), (.ref sb)]))
  obtain ⟨_, _, ⟨T16, L16, k16, n16⟩, -, X16, ⟨Lc16, hQ16, l16, y16, z16⟩, st16⟩ := X10.specialBack hx (y := (⟨"java/lang/String", "<init>", "([C)V"⟩ : MethodName)) rfl hown (mvT hZ (hw _ (List.mem_of_getElem? (i := 5) rfl))) (mvT hZ (hw _ (List.mem_of_getElem? (i := 6) rfl))) (mvT hZ (hw _ (List.mem_of_getElem? (i := 7) rfl))) (by decide) (backOf (W := 1) (rm1 l Z a0 hw [] sb ac (ownSet (ownSet (fun _ => (defaultValue .char)) 0 (.int (nar .char ((p3 &&& (255 : Int32)).toUInt32.toUInt16.toUInt32.toInt32)))) 1 (.int (nar .char ((p4 &&& (255 : Int32)).toUInt32.toUInt16.toUInt32.toInt32)))) (nar .char ((p3 &&& (255 : Int32)).toUInt32.toUInt16.toUInt32.toInt32)) (nar .char ((p4 &&& (255 : Int32)).toUInt32.toUInt16.toUInt32.toInt32)) cz h10 n0 sz10 A10 f14 f15 f13 f12 gg_sb hcz rfl rfl (own_ch p3) (own_ch p4)) hZ (hw _ (List.mem_of_getElem? (i := 7) rfl)) (hw _ (List.mem_of_getElem? (i := 4) rfl)) (by decide) (by decide)) (g := (mkF m 56 #[.val (.long p1), .second, .val (.int p2), .val (.int p3), .val (.int p4), .val (.long wh), .second, .val (.int dv), .val (.double (FP.ddiv (FP.l2d wh) (FP.i2d dv))), .second, .val (.ref ac), .unset, .unset, .unset] [(.ref ac), (.ref sb), (.ref sb)])) rfl (by rw [hml]; rfl) (Steps.refl _) (a := sb) (argsL := [(.ref ac)]) (rest := [(.ref sb)]) (lenOf pd_5 rfl) rfl (by show 2 * 0 + _ ≤ _; exact Nat.le_of_eq rfl) (hb hby at_56) (fun _ _ => ⟨rfl, e10, (by decide : 0 + 1 + 1 + 1 ≤ _), (by decide : 0 + 2 + 4 + 2 ≤ _)⟩)
  dsimp only [Pt.U, Pt.locs, Pt.cells, Pt.slots] at X16 l16 y16 z16 st16 hQ16
  subst l16 y16 z16
  refine own_by (fun t kk_ => st16.trans kk_) ?_
  obtain ⟨rfl, N16q⟩ := hQ16
  have N16 := Fr.app N7 N16q
  have sz16 : s.heap.size ≤ T16.heap.size := X16.same.2.1
  have zz16 : n0 ≤ T16.heap.size := Nat.le_trans hn0 sz16
  show OwnG p e below s _ _ _ (T16.setTop (mkF m 59 #[.val (.long p1), .second, .val (.int p2), .val (.int p3), .val (.int p4), .val (.long wh), .second, .val (.int dv), .val (.double (FP.ddiv (FP.l2d wh) (FP.i2d dv))), .second, .val (.ref ac), .unset, .unset, .unset] [(.ref sb)]))
  refine own_by (fun t kk_ => XS.astore X16.here hx rfl (hb hby at_59) rfl rfl (l' := #[.val (.long p1), .second, .val (.int p2), .val (.int p3), .val (.int p4), .val (.long wh), .second, .val (.int dv), .val (.double (FP.ddiv (FP.l2d wh) (FP.i2d dv))), .second, .val (.ref ac), .val (.ref sb), .unset, .unset]) rfl kk_) ?_
  show OwnG p e below s _ _ _ (T16.setTop (mkF m 61 #[.val (.long p1), .second, .val (.int p2), .val (.int p3), .val (.int p4), .val (.long wh), .second, .val (.int dv), .val (.double (FP.ddiv (FP.l2d wh) (FP.i2d dv))), .second, .val (.ref ac), .val (.ref sb), .unset, .unset] []))
  refine own_by (fun t kk_ => XS.aload X16.here hx rfl (hb hby at_61) rfl rfl kk_) ?_
  show OwnG p e below s _ _ _ (T16.setTop (mkF m 63 #[.val (.long p1), .second, .val (.int p2), .val (.int p3), .val (.int p4), .val (.long wh), .second, .val (.int dv), .val (.double (FP.ddiv (FP.l2d wh) (FP.i2d dv))), .second, .val (.ref ac), .val (.ref sb), .unset, .unset] [(.ref sb)]))
  refine own_by (fun t kk_ => XS.dload X16.here hx rfl (hb hby at_63) rfl  kk_) ?_
  show OwnG p e below s _ _ _ (T16.setTop (mkF m 65 #[.val (.long p1), .second, .val (.int p2), .val (.int p3), .val (.int p4), .val (.long wh), .second, .val (.int dv), .val (.double (FP.ddiv (FP.l2d wh) (FP.i2d dv))), .second, .val (.ref ac), .val (.ref sb), .unset, .unset] [(.double (FP.ddiv (FP.l2d wh) (FP.i2d dv))), (.ref sb)]))
  obtain ⟨_, _, ⟨T17, L17, k17, n17⟩, -, X17, ⟨Lc17, hQ17, l17, y17, z17⟩, st17⟩ := Jvm.LawKit.callS X16 hx (y := (⟨"com/example/etsinta/etsinta/search/Parameters", "finiteAtLeastZero", "(Ljava/lang/String;D)D"⟩ : MethodName)) hown (mvT hZ (hw _ (List.mem_of_getElem? (i := 31) rfl))) (mvT hZ (hw _ (List.mem_of_getElem? (i := 32) rfl))) (mvT hZ (hw _ (List.mem_of_getElem? (i := 33) rfl))) (mvT hZ (hw _ (List.mem_of_getElem? (i := 34) rfl))) (by decide) (backOf (W := 0) (rm7 l Z a0 hw [] sb (FP.ddiv (FP.l2d wh) (FP.i2d dv)) T16.heap n0 zz16 (own_ge hwh hdv) (own_lt hdv)) hZ (hw _ (List.mem_of_getElem? (i := 34) rfl)) (hw _ (List.mem_of_getElem? (i := 33) rfl)) (by decide) (by decide)) (g := (mkF m 65 #[.val (.long p1), .second, .val (.int p2), .val (.int p3), .val (.int p4), .val (.long wh), .second, .val (.int dv), .val (.double (FP.ddiv (FP.l2d wh) (FP.i2d dv))), .second, .val (.ref ac), .val (.ref sb), .unset, .unset] [(.double (FP.ddiv (FP.l2d wh) (FP.i2d dv))), (.ref sb)])) rfl (by rw [hml]; rfl) (argsL := [(.ref sb), (.double (FP.ddiv (FP.l2d wh) (FP.i2d dv)))]) (rest := []) (lenOf pd_6 rfl) rfl (by show 2 * 0 + _ ≤ _; exact Nat.le_of_eq rfl) (hb hby at_65) (fun _ _ => ⟨rfl, (rfl : T16.heap = T16.heap), (by decide : 0 + 1 + 1 + 1 + 0 ≤ _), (by decide : 0 + 2 + 4 + 2 + 0 ≤ _)⟩)
  dsimp only [Pt.U, Pt.locs, Pt.cells, Pt.slots] at X17 l17 y17 z17 st17 hQ17
  subst l17 y17 z17
  refine own_by (fun t kk_ => st17 _ kk_) ?_
  obtain ⟨rfl, N17q, hh17⟩ := hQ17
  have N17 := Fr.app N16 N17q
  have sz17 : n0 ≤ T17.heap.size := by rw [hh17]; exact zz16
  show OwnG p e below s _ _ _ (T17.setTop (mkF m 68 #[.val (.long p1), .second, .val (.int p2), .val (.int p3), .val (.int p4), .val (.long wh), .second, .val (.int dv), .val (.double (FP.ddiv (FP.l2d wh) (FP.i2d dv))), .second, .val (.ref ac), .val (.ref sb), .unset, .unset] [(.double (FP.ddiv (FP.l2d wh) (FP.i2d dv)))]))
  refine own_by (fun t kk_ => XS.dstore X17.here hx rfl (hb hby at_68) rfl (l' := #[.val (.long p1), .second, .val (.int p2), .val (.int p3), .val (.int p4), .val (.long wh), .second, .val (.int dv), .val (.double (FP.ddiv (FP.l2d wh) (FP.i2d dv))), .second, .val (.ref ac), .val (.ref sb), .val (.double (FP.ddiv (FP.l2d wh) (FP.i2d dv))), .second]) rfl kk_) ?_
  show OwnG p e below s _ _ _ (T17.setTop (mkF m 70 #[.val (.long p1), .second, .val (.int p2), .val (.int p3), .val (.int p4), .val (.long wh), .second, .val (.int dv), .val (.double (FP.ddiv (FP.l2d wh) (FP.i2d dv))), .second, .val (.ref ac), .val (.ref sb), .val (.double (FP.ddiv (FP.l2d wh) (FP.i2d dv))), .second] []))
  refine own_by (fun t kk_ => XS.dload X17.here hx rfl (hb hby at_70) rfl  kk_) ?_
  show OwnG p e below s _ _ _ (T17.setTop (mkF m 72 #[.val (.long p1), .second, .val (.int p2), .val (.int p3), .val (.int p4), .val (.long wh), .second, .val (.int dv), .val (.double (FP.ddiv (FP.l2d wh) (FP.i2d dv))), .second, .val (.ref ac), .val (.ref sb), .val (.double (FP.ddiv (FP.l2d wh) (FP.i2d dv))), .second] [(.double (FP.ddiv (FP.l2d wh) (FP.i2d dv)))]))
  refine own_by (fun t kk_ => XS.dload X17.here hx rfl (hb hby at_72) rfl  kk_) ?_
  show OwnG p e below s _ _ _ (T17.setTop (mkF m 74 #[.val (.long p1), .second, .val (.int p2), .val (.int p3), .val (.int p4), .val (.long wh), .second, .val (.int dv), .val (.double (FP.ddiv (FP.l2d wh) (FP.i2d dv))), .second, .val (.ref ac), .val (.ref sb), .val (.double (FP.ddiv (FP.l2d wh) (FP.i2d dv))), .second] [(.double (FP.ddiv (FP.l2d wh) (FP.i2d dv))), (.double (FP.ddiv (FP.l2d wh) (FP.i2d dv)))]))
  refine own_by (fun t kk_ => XS.dcmpS X17.here hx rfl (hb hby at_74) rfl rfl kk_) ?_
  show OwnG p e below s _ _ _ (T17.setTop (mkF m 75 #[.val (.long p1), .second, .val (.int p2), .val (.int p3), .val (.int p4), .val (.long wh), .second, .val (.int dv), .val (.double (FP.ddiv (FP.l2d wh) (FP.i2d dv))), .second, .val (.ref ac), .val (.ref sb), .val (.double (FP.ddiv (FP.l2d wh) (FP.i2d dv))), .second] [(.int (cmpValue (FP.dcmp (FP.ddiv (FP.l2d wh) (FP.i2d dv)) (FP.ddiv (FP.l2d wh) (FP.i2d dv))) .l))]))
  refine own_by (fun t kk_ => XS.ifNo X17.here hx rfl (hb hby at_75) rfl ((if0 _ _).trans (teq (dcmpV_self (own_fin hdv).noNaN _)).2) kk_) ?_
  show OwnG p e below s _ _ _ (T17.setTop (mkF m 78 #[.val (.long p1), .second, .val (.int p2), .val (.int p3), .val (.int p4), .val (.long wh), .second, .val (.int dv), .val (.double (FP.ddiv (FP.l2d wh) (FP.i2d dv))), .second, .val (.ref ac), .val (.ref sb), .val (.double (FP.ddiv (FP.l2d wh) (FP.i2d dv))), .second] []))
  refine own_by (fun t kk_ => XS.iconst X17.here hx rfl (hb hby at_78) kk_) ?_
  show OwnG p e below s _ _ _ (T17.setTop (mkF m 79 #[.val (.long p1), .second, .val (.int p2), .val (.int p3), .val (.int p4), .val (.long wh), .second, .val (.int dv), .val (.double (FP.ddiv (FP.l2d wh) (FP.i2d dv))), .second, .val (.ref ac), .val (.ref sb), .val (.double (FP.ddiv (FP.l2d wh) (FP.i2d dv))), .second] [(.int (1 : Int32))]))
  refine own_by (fun t kk_ => XS.goto X17.here hx rfl (pc0 := 79) (pc' := 83) rfl (hb hby at_79) (by decide) (by decide) kk_) ?_
  show OwnG p e below s _ _ _ (T17.setTop (mkF m 83 #[.val (.long p1), .second, .val (.int p2), .val (.int p3), .val (.int p4), .val (.long wh), .second, .val (.int dv), .val (.double (FP.ddiv (FP.l2d wh) (FP.i2d dv))), .second, .val (.ref ac), .val (.ref sb), .val (.double (FP.ddiv (FP.l2d wh) (FP.i2d dv))), .second] [(.int (1 : Int32))]))
  exact own_outN X17 hx hret (by simp) hlk (hb hby at_83) rfl (⟨rfl, N17⟩) (by decide) (by decide)
theorem own_sets {tb : Tables} {e : Env} {args : Array Value} {s : State} (h : rest_1 tb e args s) : (Jvm.Cond.initializedFor "java/lang/String" "COMPACT_STRINGS" "Z").before args s = true ∧ (Jvm.Cond.isInt (Jvm.Term.static "java/lang/String" "COMPACT_STRINGS" "Z")).value args s none s [] = some true ∧ (Jvm.Cond.not (Jvm.Cond.eq (Jvm.Term.static "java/lang/String" "COMPACT_STRINGS" "Z") (Jvm.Term.int 0))).value args s none s [] = some true := by
  have h' := Cond.before_iff.mp (show rest_1_c.before args s = true from h)
  obtain ⟨h1, h2⟩ := and_e h'
  obtain ⟨h3, h4⟩ := and_e h2
  obtain ⟨h5, -⟩ := and_e h4
  exact ⟨Cond.before_iff.mpr h1, h3, h5⟩
set_option maxRecDepth 65536 in
set_option maxHeartbeats 40000000 in
theorem comes_1 {Post : Tables → Env → Array Value → State → Outcome → State → Prop} (hpost : ∀ tb e args s v u, (limb_1_1.after args s (.returned v) u = true ∧ limb_1_2.after args s (.returned v) u = true ∧ True) → FrameEnd s (.returned v) u (Jvm.fieldLocs frame_1_writes args s ++ Jvm.arrayLocs frame_1_arrays args s ++ Jvm.staticLocs frame_1_statics s) 16 128 → Post tb e args s (.returned v) u) :
    ArmFor flags0 classFile x code maxLocals ret World_1 tables_1 room_1 Calls_1 rest_1 Pre_1 Post := by
  intro l hfl _ _ p e ha hc hk s m args below hf hA hF happ hP
  obtain ⟨hcalls, hrest, hpre⟩ := hP
  obtain ⟨-, -, -, hnamed, -, -, -, hat⟩ := (Spec.applies_iff hf).mp happ
  obtain ⟨hg, hn⟩ := and_e (Cond.before_iff.mp (show (Jvm.Cond.and given_1 narrow_1).before args s = true from hpre))
  obtain ⟨gc, gr0⟩ := and_e hg
  obtain ⟨ga0, gr1⟩ := and_e gr0
  obtain ⟨ga1, gr2⟩ := and_e gr1
  obtain ⟨ga2, gr3⟩ := and_e gr2
  obtain ⟨w0, w1, w2, w3, rfl⟩ : ∃ w0 w1 w2 w3 : Value, args = #[w0, w1, w2, w3] := by
    have hs : args.size = 4 := by simpa [Cond.value, given_1] using gc
    obtain ⟨L⟩ := args
    match L, hs with
    | [w0, w1, w2, w3], _ => exact ⟨w0, w1, w2, w3, rfl⟩
  have hw := fun d (hd : d ∈ tables_1) => atoms_spec (ws := Jvm.Cond.code x code maxLocals ret :: tables_1) hat d (List.mem_cons_of_mem _ hd)
  obtain ⟨i0, ei0⟩ := isL_v ga0
  obtain rfl : w0 = (.long i0) := Option.some.inj ei0
  obtain ⟨i1, ei1⟩ := is_v ga1
  obtain rfl : w1 = (.int i1) := Option.some.inj ei1
  obtain ⟨i2, ei2⟩ := is_v ga2
  obtain rfl : w2 = (.int i2) := Option.some.inj ei2
  obtain ⟨i3, ei3⟩ := is_v gr3
  obtain rfl : w3 = (.int i3) := Option.some.inj ei3
  have hsets := own_sets hrest
  obtain ⟨cz, ecz⟩ := is_v hsets.2.1
  have SC : Sta s s.heap "java/lang/String" "COMPACT_STRINGS" "Z" (.int cz) := Sta.start ecz (Or.inl hsets.1)
  have hcz : ¬ cz = 0 := by
    have q := not_v hsets.2.2
    intro z
    subst z
    rw [eq_i ecz (Term.int_eval (0 : Int32)) rfl] at q
    cases q
  obtain ⟨n, o, h1, h2, h3, _, L, rfl, ⟨rfl, N⟩, hq⟩ := rm0 l s _ hw tables_1 i0 i1 i2 i3 cz s.heap s.heap.size (Nat.le_refl _) SC hcz p e ha hc hk s m _ below hf ((Spec.applies_iff_loose hf).mp happ).1 ⟨rfl, State.Warmed39.refl s, rfl⟩ trivial
  refine ⟨n, _, h1, h2, h3, hpost _ _ _ _ _ _ ⟨Cond.after_iff.mpr rfl, Cond.after_iff.mpr (eq_i res_at (Term.int_eval (1)) rfl), trivial⟩ ⟨hq.1, hq.2.1, (hq.2.2.sift fun y hy => Or.inr (N y hy)).mono (by decide) (by decide)⟩⟩
theorem main_1_1 : Claimed_1_1 := comes_1 fun _ _ _ _ _ _ h hF => ⟨h.1, hF⟩
theorem main_1_2 : Claimed_1_2 := comes_1 fun _ _ _ _ _ _ h hF => ⟨h.2.1, hF⟩
end Jvm.Pilot.@@N@@
namespace Jvm.Pilot.@@N@@
open Jvm Jvm.ClassFile Sem Op Lib Jvm.Free Jvm.Stand Jvm.Pilot.@@N@@.Jvm.D
/-! MADE BY PROGRAM (witnessworld.py) out of the Statement's table words and the real class files: 20 classes; the members and pool entries that the words name. The judged class is class 1, her method 1. -/
namespace start1
open Jvm.ClassFile
def u (s : String) : CpInfo := .utf8 (stringToUtf16 s)
/-- a pool by its gaps: so many unusable entries, then the entry; so many at the end -/
def gap : Nat → List CpInfo → List CpInfo
  | 0, r => r
  | n + 1, r => .unusable :: gap n r
def poolList (es : List (Nat × CpInfo)) (last : Nat) : List CpInfo := es.foldr (fun e r => gap e.1 (e.2 :: r)) (gap last [])
def pool (es : List (Nat × CpInfo)) (last : Nat) : Array CpInfo := ⟨poolList es last⟩
def fileOf (pool : Array CpInfo) (this : Nat) (attrs : Array Attribute := #[]) (ms : Array MethodInfo := #[]) (fl : Nat := 33) (sup : Nat := 0) (ifs : Array Nat := #[]) (fds : Array FieldInfo := #[]) : ClassFile where
  minorVersion := 0
  majorVersion := 65
  constantPool := pool
  accessFlags := fl
  thisClass := this
  superClass := sup
  interfaces := ifs
  fields := fds
  methods := ms
  attributes := attrs
def plain (name : String) (sup : Option ClassId) : Class where
  name := name
  kind := .ordinary
  loader := none
  accessFlags := 33
  super := sup
  interfaces := #[]
  cf := none
  fields := #[]
  methods := #[]
  instanceTypes := #[]
  staticTypes := #[]
  resolved := #[]
  callSites := []
  init := .initialized
  statics := none
  mirror := none

def pool0 : Array CpInfo := pool [(5, u "<init>"), (0, u "()V"), (1, .class_ 10), (1, u "java/lang/Object")] 113

def k0c0 : Code := { maxStack := 0, maxLocals := 1, code := object_method_1_code, exceptionTable := #[], attributes := #[] }
def k0m0 : Method := { name := "<init>", desc := "()V", sig := { parameters := [], returnType := none }, accessFlags := 1, code := some k0c0 }
/-- java/lang/Object -/
def k0 : Class := { plain "java/lang/Object" none with
  accessFlags := 33
  interfaces := #[]
  cf := some (fileOf pool0 8 #[] #[{ accessFlags := 1, nameIndex := 5, descriptorIndex := 6, attributes := #[] }] 33 0 #[] #[])
  fields := #[]
  methods := #[k0m0]
  instanceTypes := #[]
  staticTypes := #[]
  resolved := Array.replicate 124 none
  statics := none }

def pool1 : Array CpInfo := pool [(2, .class_ 4), (1, u "java/lang/Object"), (0, u "<init>"), (0, u "()V"), (2, .long 9223372036854775807), (1, .class_ 12), (0, u "java/lang/String"), (0, .methodref 11 14), (0, .nameAndType 5 15), (0, u "([C)V"), (0, .methodref 17 18), (0, .class_ 19), (0, .nameAndType 20 21), (0, u "com/example/etsinta/etsinta/search/Parameters"), (0, u "finiteAtLeastZero"), (0, u "(Ljava/lang/String;D)D"), (0, .class_ 23), (0, u "com/example/etsinta/etsinta/search/ParametersFiniteAtLeastZeroPinLaw"), (2, u "law"), (0, u "(JIII)Z")] 5

def k1m0 : Method := { name := "<init>", desc := "()V", sig := { parameters := [], returnType := none }, accessFlags := 2, code := none }
def k1c1 : Code := { maxStack := 4, maxLocals := 14, code := code, exceptionTable := #[], attributes := #[] }
def k1m1 : Method := { name := "law", desc := "(JIII)Z", sig := { parameters := [.long, .int, .int, .int], returnType := some .boolean }, accessFlags := 9, code := some k1c1 }
/-- com/example/etsinta/etsinta/search/ParametersFiniteAtLeastZeroPinLaw -/
def k1 : Class := { plain "com/example/etsinta/etsinta/search/ParametersFiniteAtLeastZeroPinLaw" (some 0) with
  accessFlags := 49
  interfaces := #[]
  cf := some (fileOf pool1 22 #[] #[{ accessFlags := 2, nameIndex := 5, descriptorIndex := 6, attributes := #[] }, { accessFlags := 9, nameIndex := 26, descriptorIndex := 27, attributes := #[] }] 49 2 #[] #[])
  fields := #[]
  methods := #[k1m0, k1m1]
  instanceTypes := #[]
  staticTypes := #[]
  resolved := Array.replicate 33 none
  statics := none }

def pool2 : Array CpInfo := pool [(1, .class_ 2), (0, u "java/io/Serializable"), (0, .class_ 4), (0, u "java/lang/Object")] 2

/-- java/io/Serializable -/
def k2 : Class := { plain "java/io/Serializable" (some 0) with
  accessFlags := 1537
  interfaces := #[]
  cf := some (fileOf pool2 1 #[] #[] 1537 3 #[] #[])
  fields := #[]
  methods := #[]
  instanceTypes := #[]
  staticTypes := #[]
  resolved := Array.replicate 7 none
  statics := none }

def pool3 : Array CpInfo := pool [(1, .class_ 2), (0, u "java/lang/Comparable"), (0, .class_ 4), (0, u "java/lang/Object")] 7

/-- java/lang/Comparable -/
def k3 : Class := { plain "java/lang/Comparable" (some 0) with
  accessFlags := 1537
  interfaces := #[]
  cf := some (fileOf pool3 1 #[] #[] 1537 3 #[] #[])
  fields := #[]
  methods := #[]
  instanceTypes := #[]
  staticTypes := #[]
  resolved := Array.replicate 12 none
  statics := none }

def pool4 : Array CpInfo := pool [(2, .class_ 4), (1, u "java/lang/CharSequence"), (42, .class_ 48), (0, u "java/lang/CharSequence$1CodePointIterator"), (10, .class_ 60), (0, u "java/lang/CharSequence$1CharIterator"), (5, .class_ 67), (0, u "java/lang/Object")] 63

/-- java/lang/CharSequence -/
def k4 : Class := { plain "java/lang/CharSequence" (some 0) with
  accessFlags := 1537
  interfaces := #[]
  cf := some (fileOf pool4 2 #[.nestMembers #[47, 59]] #[] 1537 66 #[] #[])
  fields := #[]
  methods := #[]
  instanceTypes := #[]
  staticTypes := #[]
  resolved := Array.replicate 131 none
  statics := none }

def pool5 : Array CpInfo := pool [(1, .class_ 2), (0, u "java/lang/constant/Constable"), (0, .class_ 4), (0, u "java/lang/Object")] 6

/-- java/lang/constant/Constable -/
def k5 : Class := { plain "java/lang/constant/Constable" (some 0) with
  accessFlags := 1537
  interfaces := #[]
  cf := some (fileOf pool5 1 #[] #[] 1537 3 #[] #[])
  fields := #[]
  methods := #[]
  instanceTypes := #[]
  staticTypes := #[]
  resolved := Array.replicate 11 none
  statics := none }

def pool6 : Array CpInfo := pool [(1, .class_ 2), (0, u "java/lang/constant/ConstantDesc"), (0, .class_ 4), (0, u "java/lang/Object")] 32

/-- java/lang/constant/ConstantDesc -/
def k6 : Class := { plain "java/lang/constant/ConstantDesc" (some 0) with
  accessFlags := 1537
  interfaces := #[]
  cf := some (fileOf pool6 1 #[] #[] 1537 3 #[] #[])
  fields := #[]
  methods := #[]
  instanceTypes := #[]
  staticTypes := #[]
  resolved := Array.replicate 37 none
  statics := none }

def pool7 : Array CpInfo := pool [(1, .methodref 2 3), (0, .class_ 4), (0, .nameAndType 5 6), (0, u "java/lang/Object"), (0, u "<init>"), (0, u "()V"), (2, .fieldref 10 11), (0, .class_ 12), (0, .nameAndType 13 14), (0, u "java/lang/String"), (0, u "value"), (0, u "[B"), (0, .fieldref 10 16), (0, .nameAndType 17 18), (0, u "coder"), (0, u "B"), (2, u "hash"), (0, u "I"), (2, u "hashIsZero"), (0, u "Z"), (0, .methodref 10 28), (0, .nameAndType 5 29), (0, u "([CIILjava/lang/Void;)V"), (8, .fieldref 10 39), (0, .nameAndType 40 26), (0, u "COMPACT_STRINGS"), (1, .class_ 44), (1, u "java/lang/StringUTF16"), (0, u "compress"), (1, .methodref 42 48), (0, .nameAndType 49 50), (0, u "coderFromArrayLen"), (0, u "([BI)B"), (126, .methodref 42 178), (0, .nameAndType 45 179), (0, u "([CII)[B"), (395, .class_ 576), (0, u "java/lang/CharSequence"), (22, u "CASE_INSENSITIVE_ORDER"), (0, u "Ljava/util/Comparator;"), (409, u "([C)V"), (90, u "serialPersistentFields"), (0, u "[Ljava/io/ObjectStreamField;"), (0, .class_ 1104), (0, u "java/lang/String$CaseInsensitiveComparator"), (1, .class_ 1107), (0, u "java/io/Serializable"), (0, .class_ 1109), (0, u "java/lang/Comparable"), (0, .class_ 1111), (0, u "java/lang/constant/Constable"), (0, .class_ 1113), (0, u "java/lang/constant/ConstantDesc"), (2, u "serialVersionUID"), (0, u "J"), (3, u "REPL"), (0, u "C"), (2, u "LATIN1"), (1, u "UTF16")] 323

def k7m0 : Method := { name := "<init>", desc := "()V", sig := { parameters := [], returnType := none }, accessFlags := 1, code := none }
def k7c1 : Code := { maxStack := 5, maxLocals := 2, code := jdk_42_method_3_code, exceptionTable := #[], attributes := #[] }
def k7m1 : Method := { name := "<init>", desc := "([C)V", sig := { parameters := [(.array .char)], returnType := none }, accessFlags := 1, code := some k7c1 }
def k7c2 : Code := { maxStack := 4, maxLocals := 6, code := jdk_42_method_149_code, exceptionTable := #[], attributes := #[] }
def k7m2 : Method := { name := "<init>", desc := "([CIILjava/lang/Void;)V", sig := { parameters := [(.array .char), .int, .int, (.object "java/lang/Void")], returnType := none }, accessFlags := 2, code := some k7c2 }
/-- java/lang/String -/
def k7 : Class := { plain "java/lang/String" (some 0) with
  accessFlags := 49
  interfaces := #[2, 3, 4, 5, 6]
  cf := some (fileOf pool7 10 #[.nestMembers #[1103]] #[{ accessFlags := 1, nameIndex := 5, descriptorIndex := 6, attributes := #[] }, { accessFlags := 1, nameIndex := 5, descriptorIndex := 1010, attributes := #[] }, { accessFlags := 2, nameIndex := 5, descriptorIndex := 29, attributes := #[] }] 49 2 #[1106, 1108, 575, 1110, 1112] #[{ accessFlags := 18, nameIndex := 13, descriptorIndex := 14, attributes := #[] }, { accessFlags := 18, nameIndex := 17, descriptorIndex := 18, attributes := #[] }, { accessFlags := 2, nameIndex := 21, descriptorIndex := 22, attributes := #[] }, { accessFlags := 2, nameIndex := 25, descriptorIndex := 26, attributes := #[] }, { accessFlags := 26, nameIndex := 1116, descriptorIndex := 1117, attributes := #[] }, { accessFlags := 24, nameIndex := 40, descriptorIndex := 26, attributes := #[] }, { accessFlags := 26, nameIndex := 1101, descriptorIndex := 1102, attributes := #[] }, { accessFlags := 26, nameIndex := 1121, descriptorIndex := 1122, attributes := #[] }, { accessFlags := 25, nameIndex := 599, descriptorIndex := 600, attributes := #[] }, { accessFlags := 24, nameIndex := 1125, descriptorIndex := 18, attributes := #[] }, { accessFlags := 24, nameIndex := 1127, descriptorIndex := 18, attributes := #[] }])
  fields := #[{ name := "value", type := (.array .byte), accessFlags := 18, slot := 0, constantValue := 0 }, { name := "coder", type := .byte, accessFlags := 18, slot := 1, constantValue := 0 }, { name := "hash", type := .int, accessFlags := 2, slot := 2, constantValue := 0 }, { name := "hashIsZero", type := .boolean, accessFlags := 2, slot := 3, constantValue := 0 }, { name := "serialVersionUID", type := .long, accessFlags := 26, slot := 0, constantValue := 0 }, { name := "COMPACT_STRINGS", type := .boolean, accessFlags := 24, slot := 1, constantValue := 0 }, { name := "serialPersistentFields", type := (.array (.object "java/io/ObjectStreamField")), accessFlags := 26, slot := 2, constantValue := 0 }, { name := "REPL", type := .char, accessFlags := 26, slot := 3, constantValue := 0 }, { name := "CASE_INSENSITIVE_ORDER", type := (.object "java/util/Comparator"), accessFlags := 25, slot := 4, constantValue := 0 }, { name := "LATIN1", type := .byte, accessFlags := 24, slot := 5, constantValue := 0 }, { name := "UTF16", type := .byte, accessFlags := 24, slot := 6, constantValue := 0 }]
  methods := #[k7m0, k7m1, k7m2]
  instanceTypes := #[(.array .byte), .byte, .int, .boolean]
  staticTypes := #[.long, .boolean, (.array (.object "java/io/ObjectStreamField")), .char, (.object "java/util/Comparator"), .byte, .byte]
  resolved := Array.replicate 1451 none
  statics := some 0 }

def pool8 : Array CpInfo := pool [(6, .class_ 8), (1, u "java/lang/Object"), (0, u "<init>"), (0, u "()V"), (1, .class_ 14), (1, u "java/lang/StringUTF16"), (31, u "$assertionsDisabled"), (0, u "Z"), (13, u "HI_BYTE_SHIFT"), (0, u "I"), (2, u "LO_BYTE_SHIFT"), (49, .methodref 12 116), (0, .nameAndType 117 118), (0, u "compress"), (0, u "([CI[BII)I"), (3, u "([CII)[B"), (138, u "coderFromArrayLen"), (0, u "([BI)B"), (106, .class_ 371), (1, u "java/lang/StringUTF16$LinesSpliterator"), (58, u "MAX_LENGTH"), (196, .class_ 628), (0, u "java/lang/StringUTF16$CodePointsSpliterator"), (0, .class_ 630), (0, u "java/lang/StringUTF16$CharsSpliterator")] 4

def k8m0 : Method := { name := "<init>", desc := "()V", sig := { parameters := [], returnType := none }, accessFlags := 0, code := none }
def k8c1 : Code := { maxStack := 2, maxLocals := 2, code := jdk_52_method_15_code, exceptionTable := #[], attributes := #[] }
def k8m1 : Method := { name := "coderFromArrayLen", desc := "([BI)B", sig := { parameters := [(.array .byte), .int], returnType := some .byte }, accessFlags := 8, code := some k8c1 }
def k8c2 : Code := { maxStack := 5, maxLocals := 6, code := jdk_52_method_16_code, exceptionTable := #[], attributes := #[] }
def k8m2 : Method := { name := "compress", desc := "([CII)[B", sig := { parameters := [(.array .char), .int, .int], returnType := some (.array .byte) }, accessFlags := 9, code := some k8c2 }
def k8c3 : Code := { maxStack := 3, maxLocals := 7, code := jdk_52_method_21_code, exceptionTable := #[], attributes := #[] }
def k8m3 : Method := { name := "compress", desc := "([CI[BII)I", sig := { parameters := [(.array .char), .int, (.array .byte), .int, .int], returnType := some .int }, accessFlags := 9, code := some k8c3 }
/-- java/lang/StringUTF16 -/
def k8 : Class := { plain "java/lang/StringUTF16" (some 0) with
  accessFlags := 48
  interfaces := #[]
  cf := some (fileOf pool8 12 #[.nestMembers #[627, 629, 369]] #[{ accessFlags := 0, nameIndex := 9, descriptorIndex := 10, attributes := #[] }, { accessFlags := 8, nameIndex := 261, descriptorIndex := 262, attributes := #[] }, { accessFlags := 9, nameIndex := 117, descriptorIndex := 122, attributes := #[] }, { accessFlags := 9, nameIndex := 117, descriptorIndex := 118, attributes := #[] }] 48 6 #[] #[{ accessFlags := 26, nameIndex := 61, descriptorIndex := 62, attributes := #[] }, { accessFlags := 26, nameIndex := 65, descriptorIndex := 62, attributes := #[] }, { accessFlags := 24, nameIndex := 430, descriptorIndex := 62, attributes := #[] }, { accessFlags := 4120, nameIndex := 46, descriptorIndex := 47, attributes := #[] }])
  fields := #[{ name := "HI_BYTE_SHIFT", type := .int, accessFlags := 26, slot := 0, constantValue := 0 }, { name := "LO_BYTE_SHIFT", type := .int, accessFlags := 26, slot := 1, constantValue := 0 }, { name := "MAX_LENGTH", type := .int, accessFlags := 24, slot := 2, constantValue := 0 }, { name := "$assertionsDisabled", type := .boolean, accessFlags := 4120, slot := 3, constantValue := 0 }]
  methods := #[k8m0, k8m1, k8m2, k8m3]
  instanceTypes := #[]
  staticTypes := #[.int, .int, .int, .boolean]
  resolved := Array.replicate 635 none
  statics := none }

def pool9 : Array CpInfo := pool [(2, .class_ 4), (1, u "java/lang/Object"), (0, u "<init>"), (0, u "()V"), (2, .double 9218868437227405312), (10, .class_ 21), (0, u "com/example/etsinta/etsinta/search/Parameters"), (2, u "finiteAtLeastZero"), (0, u "(Ljava/lang/String;D)D")] 18

def k9m0 : Method := { name := "<init>", desc := "()V", sig := { parameters := [], returnType := none }, accessFlags := 2, code := none }
def k9c1 : Code := { maxStack := 5, maxLocals := 3, code := prog_45_method_2_code, exceptionTable := #[], attributes := #[] }
def k9m1 : Method := { name := "finiteAtLeastZero", desc := "(Ljava/lang/String;D)D", sig := { parameters := [(.object "java/lang/String"), .double], returnType := some .double }, accessFlags := 8, code := some k9c1 }
/-- com/example/etsinta/etsinta/search/Parameters -/
def k9 : Class := { plain "com/example/etsinta/etsinta/search/Parameters" (some 0) with
  accessFlags := 32
  interfaces := #[]
  cf := some (fileOf pool9 20 #[] #[{ accessFlags := 2, nameIndex := 5, descriptorIndex := 6, attributes := #[] }, { accessFlags := 8, nameIndex := 24, descriptorIndex := 25, attributes := #[] }] 32 2 #[] #[])
  fields := #[]
  methods := #[k9m0, k9m1]
  instanceTypes := #[]
  staticTypes := #[]
  resolved := Array.replicate 44 none
  statics := none }

def pool10 : Array CpInfo := pool [(4, .class_ 6), (1, u "java/lang/Object"), (0, u "<init>"), (0, u "()V"), (5, .class_ 16), (1, u "java/lang/StringLatin1"), (104, u "$assertionsDisabled"), (0, u "Z"), (98, .class_ 223), (1, u "java/lang/StringLatin1$LinesSpliterator"), (166, .class_ 391), (0, u "java/lang/StringLatin1$CharsSpliterator")] 3

def k10m0 : Method := { name := "<init>", desc := "()V", sig := { parameters := [], returnType := none }, accessFlags := 0, code := none }
/-- java/lang/StringLatin1 -/
def k10 : Class := { plain "java/lang/StringLatin1" (some 0) with
  accessFlags := 48
  interfaces := #[]
  cf := some (fileOf pool10 14 #[.nestMembers #[390, 221]] #[{ accessFlags := 0, nameIndex := 7, descriptorIndex := 8, attributes := #[] }] 48 4 #[] #[{ accessFlags := 4120, nameIndex := 121, descriptorIndex := 122, attributes := #[] }])
  fields := #[{ name := "$assertionsDisabled", type := .boolean, accessFlags := 4120, slot := 0, constantValue := 0 }]
  methods := #[k10m0]
  instanceTypes := #[]
  staticTypes := #[.boolean]
  resolved := Array.replicate 395 none
  statics := none }

def pool11 : Array CpInfo := pool [(2, .class_ 4), (1, u "java/lang/Object"), (0, u "<init>"), (0, u "()V"), (17, .class_ 26), (1, u "jdk/internal/util/Preconditions"), (28, .class_ 56), (0, u "jdk/internal/util/Preconditions$4"), (57, .class_ 115), (0, u "jdk/internal/util/Preconditions$1"), (7, u "SIOOBE_FORMATTER"), (0, u "Ljava/util/function/BiFunction;"), (0, .class_ 126), (0, u "jdk/internal/util/Preconditions$2"), (3, u "AIOOBE_FORMATTER"), (0, .class_ 132), (0, u "jdk/internal/util/Preconditions$3"), (3, u "IOOBE_FORMATTER")] 57

def k11m0 : Method := { name := "<init>", desc := "()V", sig := { parameters := [], returnType := none }, accessFlags := 1, code := none }
/-- jdk/internal/util/Preconditions -/
def k11 : Class := { plain "jdk/internal/util/Preconditions" (some 0) with
  accessFlags := 33
  interfaces := #[]
  cf := some (fileOf pool11 24 #[.nestMembers #[55, 131, 125, 114]] #[{ accessFlags := 1, nameIndex := 5, descriptorIndex := 6, attributes := #[] }] 33 2 #[] #[{ accessFlags := 25, nameIndex := 123, descriptorIndex := 124, attributes := #[] }, { accessFlags := 25, nameIndex := 130, descriptorIndex := 124, attributes := #[] }, { accessFlags := 25, nameIndex := 136, descriptorIndex := 124, attributes := #[] }])
  fields := #[{ name := "SIOOBE_FORMATTER", type := (.object "java/util/function/BiFunction"), accessFlags := 25, slot := 0, constantValue := 0 }, { name := "AIOOBE_FORMATTER", type := (.object "java/util/function/BiFunction"), accessFlags := 25, slot := 1, constantValue := 0 }, { name := "IOOBE_FORMATTER", type := (.object "java/util/function/BiFunction"), accessFlags := 25, slot := 2, constantValue := 0 }]
  methods := #[k11m0]
  instanceTypes := #[]
  staticTypes := #[(.object "java/util/function/BiFunction"), (.object "java/util/function/BiFunction"), (.object "java/util/function/BiFunction")]
  resolved := Array.replicate 194 none
  statics := some 1 }

def pool12 : Array CpInfo := pool [(9, u "<init>"), (6, .class_ 18), (1, u "java/lang/Object"), (0, u "()V"), (1, .class_ 23), (1, u "jdk/internal/util/ArraysSupport"), (0, u "LOG2_ARRAY_LONG_INDEX_SCALE"), (0, u "I"), (2, u "U"), (0, u "Ljdk/internal/misc/Unsafe;"), (8, u "BIG_ENDIAN"), (0, u "Z"), (8, u "LOG2_BYTE_BIT_SIZE"), (4, u "LOG2_ARRAY_INT_INDEX_SCALE"), (54, u "JLA"), (0, u "Ljdk/internal/access/JavaLangAccess;"), (11, u "LOG2_ARRAY_BOOLEAN_INDEX_SCALE"), (9, u "LOG2_ARRAY_BYTE_INDEX_SCALE"), (5, u "LOG2_ARRAY_CHAR_INDEX_SCALE"), (5, u "LOG2_ARRAY_SHORT_INDEX_SCALE"), (18, u "LOG2_ARRAY_FLOAT_INDEX_SCALE"), (24, u "LOG2_ARRAY_DOUBLE_INDEX_SCALE"), (89, u "T_BOOLEAN"), (2, u "T_CHAR"), (1, u "T_FLOAT"), (1, u "T_DOUBLE"), (1, u "T_BYTE"), (1, u "T_SHORT"), (1, u "T_INT"), (1, u "T_LONG"), (1, u "SOFT_MAX_ARRAY_LENGTH")] 83

def k12m0 : Method := { name := "<init>", desc := "()V", sig := { parameters := [], returnType := none }, accessFlags := 2, code := none }
/-- jdk/internal/util/ArraysSupport -/
def k12 : Class := { plain "jdk/internal/util/ArraysSupport" (some 0) with
  accessFlags := 33
  interfaces := #[]
  cf := some (fileOf pool12 21 #[] #[{ accessFlags := 2, nameIndex := 9, descriptorIndex := 19, attributes := #[] }] 33 16 #[] #[{ accessFlags := 24, nameIndex := 28, descriptorIndex := 29, attributes := #[] }, { accessFlags := 26, nameIndex := 38, descriptorIndex := 39, attributes := #[] }, { accessFlags := 25, nameIndex := 121, descriptorIndex := 25, attributes := #[] }, { accessFlags := 25, nameIndex := 131, descriptorIndex := 25, attributes := #[] }, { accessFlags := 25, nameIndex := 137, descriptorIndex := 25, attributes := #[] }, { accessFlags := 25, nameIndex := 143, descriptorIndex := 25, attributes := #[] }, { accessFlags := 25, nameIndex := 53, descriptorIndex := 25, attributes := #[] }, { accessFlags := 25, nameIndex := 24, descriptorIndex := 25, attributes := #[] }, { accessFlags := 25, nameIndex := 162, descriptorIndex := 25, attributes := #[] }, { accessFlags := 25, nameIndex := 187, descriptorIndex := 25, attributes := #[] }, { accessFlags := 26, nameIndex := 48, descriptorIndex := 25, attributes := #[] }, { accessFlags := 25, nameIndex := 277, descriptorIndex := 25, attributes := #[] }, { accessFlags := 25, nameIndex := 280, descriptorIndex := 25, attributes := #[] }, { accessFlags := 25, nameIndex := 282, descriptorIndex := 25, attributes := #[] }, { accessFlags := 25, nameIndex := 284, descriptorIndex := 25, attributes := #[] }, { accessFlags := 25, nameIndex := 286, descriptorIndex := 25, attributes := #[] }, { accessFlags := 25, nameIndex := 288, descriptorIndex := 25, attributes := #[] }, { accessFlags := 25, nameIndex := 290, descriptorIndex := 25, attributes := #[] }, { accessFlags := 25, nameIndex := 292, descriptorIndex := 25, attributes := #[] }, { accessFlags := 26, nameIndex := 108, descriptorIndex := 109, attributes := #[] }, { accessFlags := 25, nameIndex := 294, descriptorIndex := 25, attributes := #[] }])
  fields := #[{ name := "U", type := (.object "jdk/internal/misc/Unsafe"), accessFlags := 24, slot := 0, constantValue := 0 }, { name := "BIG_ENDIAN", type := .boolean, accessFlags := 26, slot := 1, constantValue := 0 }, { name := "LOG2_ARRAY_BOOLEAN_INDEX_SCALE", type := .int, accessFlags := 25, slot := 2, constantValue := 0 }, { name := "LOG2_ARRAY_BYTE_INDEX_SCALE", type := .int, accessFlags := 25, slot := 3, constantValue := 0 }, { name := "LOG2_ARRAY_CHAR_INDEX_SCALE", type := .int, accessFlags := 25, slot := 4, constantValue := 0 }, { name := "LOG2_ARRAY_SHORT_INDEX_SCALE", type := .int, accessFlags := 25, slot := 5, constantValue := 0 }, { name := "LOG2_ARRAY_INT_INDEX_SCALE", type := .int, accessFlags := 25, slot := 6, constantValue := 0 }, { name := "LOG2_ARRAY_LONG_INDEX_SCALE", type := .int, accessFlags := 25, slot := 7, constantValue := 0 }, { name := "LOG2_ARRAY_FLOAT_INDEX_SCALE", type := .int, accessFlags := 25, slot := 8, constantValue := 0 }, { name := "LOG2_ARRAY_DOUBLE_INDEX_SCALE", type := .int, accessFlags := 25, slot := 9, constantValue := 0 }, { name := "LOG2_BYTE_BIT_SIZE", type := .int, accessFlags := 26, slot := 10, constantValue := 0 }, { name := "T_BOOLEAN", type := .int, accessFlags := 25, slot := 11, constantValue := 0 }, { name := "T_CHAR", type := .int, accessFlags := 25, slot := 12, constantValue := 0 }, { name := "T_FLOAT", type := .int, accessFlags := 25, slot := 13, constantValue := 0 }, { name := "T_DOUBLE", type := .int, accessFlags := 25, slot := 14, constantValue := 0 }, { name := "T_BYTE", type := .int, accessFlags := 25, slot := 15, constantValue := 0 }, { name := "T_SHORT", type := .int, accessFlags := 25, slot := 16, constantValue := 0 }, { name := "T_INT", type := .int, accessFlags := 25, slot := 17, constantValue := 0 }, { name := "T_LONG", type := .int, accessFlags := 25, slot := 18, constantValue := 0 }, { name := "JLA", type := (.object "jdk/internal/access/JavaLangAccess"), accessFlags := 26, slot := 19, constantValue := 0 }, { name := "SOFT_MAX_ARRAY_LENGTH", type := .int, accessFlags := 25, slot := 20, constantValue := 0 }]
  methods := #[k12m0]
  instanceTypes := #[]
  staticTypes := #[(.object "jdk/internal/misc/Unsafe"), .boolean, .int, .int, .int, .int, .int, .int, .int, .int, .int, .int, .int, .int, .int, .int, .int, .int, .int, (.object "jdk/internal/access/JavaLangAccess"), .int]
  resolved := Array.replicate 378 none
  statics := none }

def pool13 : Array CpInfo := pool [(1, u "java/lang/Cloneable"), (0, .class_ 1), (0, u "java/lang/Object"), (0, .class_ 3)] 3

/-- java/lang/Cloneable -/
def k13 : Class := { plain "java/lang/Cloneable" (some 0) with
  accessFlags := 1537
  interfaces := #[]
  cf := some (fileOf pool13 2 #[] #[] 1537 4 #[] #[])
  fields := #[]
  methods := #[]
  instanceTypes := #[]
  staticTypes := #[]
  resolved := Array.replicate 8 none
  statics := none }

/-- the primitive byte -/
def k14 : Class := { plain "byte" none with kind := .primitive 'B', accessFlags := 0x411 }
/-- [B -/
def k15 : Class := { plain "[B" (some 0) with kind := .array 14 .byte, interfaces := #[13, 2], accessFlags := 1041 }

/-- the primitive char -/
def k16 : Class := { plain "char" none with kind := .primitive 'C', accessFlags := 0x411 }
/-- [C -/
def k17 : Class := { plain "[C" (some 0) with kind := .array 16 .char, interfaces := #[13, 2], accessFlags := 1041 }

/-- the primitive int -/
def k18 : Class := { plain "int" none with kind := .primitive 'I', accessFlags := 0x411 }
/-- [I -/
def k19 : Class := { plain "[I" (some 0) with kind := .array 18 .int, interfaces := #[13, 2], accessFlags := 1041 }

def heap : Heap := #[{ cls := 7, slots := #[.long 0, .int 1, .null, .int 0, .null, .int 0, .int 0], vm := .statics 7 },
  { cls := 11, slots := #[.null, .null, .null], vm := .statics 11 }]
def classes : Array Class := #[k0, k1, k2, k3, k4, k5, k6, k7, k8, k9, k10, k11, k12, k13, k14, k15, k16, k17, k18, k19]
def interned : List (Array UInt16 × Addr) := []
def slotsUsed : Nat := 10
def theMethod : MethodId := ⟨1, 1⟩
def args0 : Array Value := #[.long 5, .int 3, .int 3, .int 3]
def aboutOver (below : List Frame) : State where
  vm := { classes := classes, interned := interned.toArray }
  heap := heap
  slotsUsed := slotsUsed
  threads := #[{ frames := .invoking theMethod args0 :: below }]
def below0 : List Frame := [.native { method := ⟨0, 0⟩, args := #[] }]
def about1 : State := aboutOver below0
def p0 : Program := .bare "" "" ""
def e0 : Env := launch0.env 0 0 0
theorem w_frames : about1.frames = Frame.invoking theMethod args0 :: below0 := rfl
set_option maxRecDepth 65536 in
theorem w_args : argsFit about1.vm theMethod args0 = true := by decide +kernel
set_option maxRecDepth 65536 in
theorem w_heap : heapFits about1 = true := by decide +kernel
set_option maxRecDepth 65536 in
theorem w_runnable : about1.curStatus? = some .runnable := by decide +kernel
set_option maxRecDepth 65536 in
theorem w_alone : about1.alone = true := by decide +kernel
set_option maxRecDepth 65536 in
theorem w_named : about1.methodNamed? x = some theMethod := by decide +kernel
set_option maxRecDepth 65536 in
theorem w_hears : about1.hears theMethod below0 = true := by decide +kernel
set_option maxRecDepth 65536 in
theorem w_ripe : about1.ripe theMethod args0 below0 = true := by decide +kernel
theorem w_running : about1.status = .running := rfl
set_option maxRecDepth 65536 in
theorem w_room : about1.hasRoom e0.platform room_1 = true :=
  launch0.hasRoom_least _ room_1 (by decide +kernel) (by decide +kernel) (by decide +kernel) (by decide +kernel) (by decide +kernel) (by decide +kernel)
theorem allAtoms_all (ts : List Jvm.Cond) (a : Array Jvm.Value) (st : Jvm.State) : (allAtoms ts).before a st = ts.all (fun c => c.before a st) := by
  induction ts with
  | nil => rfl
  | cons c t ih =>
    show (Jvm.Cond.and c (allAtoms t)).before a st = _
    rw [Jvm.Cond.before_and, ih, List.all_cons]
def words1 : List Jvm.Cond := Jvm.Cond.code x code maxLocals ret :: tables_1
/-- a 'code' word, met by the world's own term for the bytes: nothing is compared byte by byte -/
theorem code_word {y : MethodName} {bytes : ByteArray} {mx : Nat} {rt : Option FieldType} {a : Array Value} {s : State} {m : MethodId} {meth : Method} {c : Code} (h1 : s.methodNamed? y = some m) (h2 : s.vm.method? m = some meth) (h3 : meth.code = some c) (h4 : c.code = bytes)
    (h5 : (c.maxLocals == mx && c.exceptionTable.isEmpty && decide (c.maxStack ≤ mostOperands) && decide (meth.sig.returnType = rt) && !meth.locks && decide (parseMethodDescriptor y.desc = some meth.sig)) = true) : (Jvm.Cond.code y bytes mx rt).before a s = true := by
  simp only [Bool.and_eq_true, beq_iff_eq, Bool.not_eq_true', decide_eq_true_eq] at h5
  obtain ⟨⟨⟨⟨⟨g1, g2⟩, g3⟩, g4⟩, g5⟩, g6⟩ := h5
  simp [Cond.before, Cond.holds, Cond.value, h1, h2, h3, h4, g1, g2, g3, g4, g5, g6]
def isCode : Jvm.Cond → Bool
  | .code _ _ _ _ => true
  | _ => false
theorem all_split {L : List Jvm.Cond} {P : Jvm.Cond → Bool} (h1 : L.all (fun c => isCode c || P c) = true) (h2 : ∀ c ∈ L.filter isCode, P c = true) : L.all P = true := by
  refine List.all_eq_true.mpr fun c hc => ?_
  have h := List.all_eq_true.mp h1 c hc
  rcases Bool.eq_false_or_eq_true (isCode c) with hi | hi
  · exact h2 c (List.mem_filter.mpr ⟨hc, hi⟩)
  · simpa [hi] using h
set_option maxRecDepth 65536 in
theorem w_c0 : (Jvm.Cond.code x code maxLocals ret).before args0 about1 = true := code_word (m := ⟨1, 1⟩) (meth := k1m1) (c := k1c1) (by decide +kernel) rfl rfl rfl (by decide +kernel)
set_option maxRecDepth 65536 in
theorem w_c1 : (Jvm.Cond.code ({ cls := "java/lang/String", name := "<init>", desc := "([C)V" } : Jvm.MethodName) jdk_42_method_3_code (2 : Nat) (Option.none : Option Jvm.ClassFile.FieldType)).before args0 about1 = true := code_word (m := ⟨7, 1⟩) (meth := k7m1) (c := k7c1) (by decide +kernel) rfl rfl rfl (by decide +kernel)
set_option maxRecDepth 65536 in
theorem w_c2 : (Jvm.Cond.code ({ cls := "java/lang/String", name := "<init>", desc := "([CIILjava/lang/Void;)V" } : Jvm.MethodName) jdk_42_method_149_code (6 : Nat) (Option.none : Option Jvm.ClassFile.FieldType)).before args0 about1 = true := code_word (m := ⟨7, 2⟩) (meth := k7m2) (c := k7c2) (by decide +kernel) rfl rfl rfl (by decide +kernel)
set_option maxRecDepth 65536 in
theorem w_c3 : (Jvm.Cond.code ({ cls := "java/lang/Object", name := "<init>", desc := "()V" } : Jvm.MethodName) object_method_1_code (1 : Nat) (Option.none : Option Jvm.ClassFile.FieldType)).before args0 about1 = true := code_word (m := ⟨0, 0⟩) (meth := k0m0) (c := k0c0) (by decide +kernel) rfl rfl rfl (by decide +kernel)
set_option maxRecDepth 65536 in
theorem w_c4 : (Jvm.Cond.code ({ cls := "java/lang/StringUTF16", name := "compress", desc := "([CII)[B" } : Jvm.MethodName) jdk_52_method_16_code (6 : Nat) (Option.some (Jvm.ClassFile.FieldType.array Jvm.ClassFile.FieldType.byte))).before args0 about1 = true := code_word (m := ⟨8, 2⟩) (meth := k8m2) (c := k8c2) (by decide +kernel) rfl rfl rfl (by decide +kernel)
set_option maxRecDepth 65536 in
theorem w_c5 : (Jvm.Cond.code ({ cls := "java/lang/StringUTF16", name := "compress", desc := "([CI[BII)I" } : Jvm.MethodName) jdk_52_method_21_code (7 : Nat) (Option.some Jvm.ClassFile.FieldType.int)).before args0 about1 = true := code_word (m := ⟨8, 3⟩) (meth := k8m3) (c := k8c3) (by decide +kernel) rfl rfl rfl (by decide +kernel)
set_option maxRecDepth 65536 in
theorem w_c6 : (Jvm.Cond.code ({ cls := "java/lang/StringUTF16", name := "coderFromArrayLen", desc := "([BI)B" } : Jvm.MethodName) jdk_52_method_15_code (2 : Nat) (Option.some Jvm.ClassFile.FieldType.byte)).before args0 about1 = true := code_word (m := ⟨8, 1⟩) (meth := k8m1) (c := k8c1) (by decide +kernel) rfl rfl rfl (by decide +kernel)
set_option maxRecDepth 65536 in
theorem w_c7 : (Jvm.Cond.code ({ cls := "com/example/etsinta/etsinta/search/Parameters", name := "finiteAtLeastZero", desc := "(Ljava/lang/String;D)D" } : Jvm.MethodName) prog_45_method_2_code (3 : Nat) (Option.some Jvm.ClassFile.FieldType.double)).before args0 about1 = true := code_word (m := ⟨9, 1⟩) (meth := k9m1) (c := k9c1) (by decide +kernel) rfl rfl rfl (by decide +kernel)
def codes1 : List Jvm.Cond := [Jvm.Cond.code x code maxLocals ret, Jvm.Cond.code ({ cls := "java/lang/String", name := "<init>", desc := "([C)V" } : Jvm.MethodName) jdk_42_method_3_code (2 : Nat) (Option.none : Option Jvm.ClassFile.FieldType), Jvm.Cond.code ({ cls := "java/lang/String", name := "<init>", desc := "([CIILjava/lang/Void;)V" } : Jvm.MethodName) jdk_42_method_149_code (6 : Nat) (Option.none : Option Jvm.ClassFile.FieldType), Jvm.Cond.code ({ cls := "java/lang/Object", name := "<init>", desc := "()V" } : Jvm.MethodName) object_method_1_code (1 : Nat) (Option.none : Option Jvm.ClassFile.FieldType), Jvm.Cond.code ({ cls := "java/lang/StringUTF16", name := "compress", desc := "([CII)[B" } : Jvm.MethodName) jdk_52_method_16_code (6 : Nat) (Option.some (Jvm.ClassFile.FieldType.array Jvm.ClassFile.FieldType.byte)), Jvm.Cond.code ({ cls := "java/lang/StringUTF16", name := "compress", desc := "([CI[BII)I" } : Jvm.MethodName) jdk_52_method_21_code (7 : Nat) (Option.some Jvm.ClassFile.FieldType.int), Jvm.Cond.code ({ cls := "java/lang/StringUTF16", name := "coderFromArrayLen", desc := "([BI)B" } : Jvm.MethodName) jdk_52_method_15_code (2 : Nat) (Option.some Jvm.ClassFile.FieldType.byte), Jvm.Cond.code ({ cls := "com/example/etsinta/etsinta/search/Parameters", name := "finiteAtLeastZero", desc := "(Ljava/lang/String;D)D" } : Jvm.MethodName) prog_45_method_2_code (3 : Nat) (Option.some Jvm.ClassFile.FieldType.double)]
set_option maxRecDepth 65536 in
theorem codes_eq : words1.filter isCode = codes1 := rfl
theorem w_codes : ∀ c ∈ words1.filter isCode, c.before args0 about1 = true := by
  rw [codes_eq]
  intro c hc
  simp only [codes1, List.mem_cons, List.not_mem_nil, or_false] at hc
  rcases hc with rfl | rfl | rfl | rfl | rfl | rfl | rfl | rfl
  · exact w_c0
  · exact w_c1
  · exact w_c2
  · exact w_c3
  · exact w_c4
  · exact w_c5
  · exact w_c6
  · exact w_c7
set_option maxRecDepth 65536 in
theorem w_t1 : (words1.take 24).all (fun c => isCode c || c.before args0 about1) = true := by decide +kernel
set_option maxRecDepth 65536 in
theorem w_t2 : (words1.drop 24).all (fun c => isCode c || c.before args0 about1) = true := by decide +kernel
theorem w_tables : (allAtoms (Jvm.Cond.code x code maxLocals ret :: tables_1)).before args0 about1 = true := by
  rw [allAtoms_all]
  show words1.all (fun c => c.before args0 about1) = true
  refine all_split ?_ w_codes
  rw [← List.take_append_drop 24 words1, List.all_append, w_t1, w_t2]
  rfl
set_option maxRecDepth 65536 in
theorem w_rest : rest_1_c.before args0 about1 = true := by decide +kernel
set_option maxRecDepth 65536 in
theorem w_case : (Jvm.Cond.and given_1 narrow_1).before args0 about1 = true := by decide +kernel
theorem w_applies : (headSpec (Jvm.Cond.code x code maxLocals ret :: tables_1) room_1).applies x e0.platform about1 = true :=
  (Spec.applies_iff w_frames).mpr ⟨w_running, w_runnable, w_alone, w_named, w_hears, w_ripe, w_room, w_tables⟩
theorem atStart : AtStart classFile x code maxLocals ret World_1 tables_1 room_1 Calls_1 rest_1 Pre_1 launch0 p0 e0 about1 theMethod args0 below0 :=
  ⟨lists_1, trivial, launch0.admits_env _ _ _, launch0.least_env, fairChoices_fair.cas, fairChoices_fair.clock, w_frames, w_args, w_heap, w_applies, trivial, w_rest, w_case⟩
end start1
theorem witness_1 : WitnessClaimed_1 := ⟨start1.p0, start1.e0, start1.about1, start1.theMethod, start1.args0, start1.below0, start1.atStart⟩
end Jvm.Pilot.@@N@@
