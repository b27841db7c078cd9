import JvmDerived
import JvmDerived.Pilot.@@N@@Statement
import JvmDerived.Pilot.@@N@@Code
set_option linter.unusedVariables false
set_option linter.unusedSimpArgs false
namespace Jvm.RoadKit
open Sem ClassFile Op Lib Jvm.Stand Jvm.Free Jvm.LawKit
section OwnKit
variable {p : Program} {l : Launch} {e : Env} {R : Room} {s : State} {m : MethodId} {args : Array Value} {below : List Frame} {meth : Method} {c : Code} {T : State} {locs : List Loc} {cells slots : Nat} {Q : Option Value → Heap → List Loc → Prop} {rc rs : Nat}
theorem retI (X : Stand p l e R s m args below meth c T locs cells slots) (hx : p.tables.exec = Jvm.exec) {pc : Nat} {Ls : Array Slot} {z : Int32} {rest : List Value} (hret : meth.sig.returnType = some .int) (hd : decode c.code pc = .ok (.ireturn, 1)) {fs : List Frame}
    (hl : ∀ (f : JFrame) (acts : List Action), f.method = m → f.locked = none → f.entered = [] → (doReturn e (T.setTop f) acts (some (.int z))).1 = T.setFrames fs) : Steps p.tables e below (T.setTop (mkF m pc Ls (.int z :: rest))) (T.setFrames fs) := by
  have hm' : T.vm.method? m = some meth := X.method'
  have hn : narrow .int (.int z) = .int z := rfl
  show Steps p.tables e below (T.setTop { method := m, pc := pc, locals := Ls, stack := _ :: rest, locked := none }) _
  jvm_step X.here [X.here.top, hx, hd, hm', hret, hn]
  first | (intro acts; rw [hl _ acts rfl rfl rfl]) | rw [hl _ _ rfl rfl rfl]
  exact Steps.refl _
theorem own_retA (X : Stand p l e R s m args below meth c T locs cells slots) (hx : p.tables.exec = Jvm.exec) {pc : Nat} {Ls : Array Slot} {w : Value} {ty : FieldType} {rest : List Value} (hw : w.isRef = true) (hty : ty.isReference = true) (hret : meth.sig.returnType = some ty) (hd : decode c.code pc = .ok (.areturn, 1)) {fs : List Frame}
    (hl : ∀ (f : JFrame) (acts : List Action), f.method = m → f.locked = none → f.entered = [] → (doReturn e (T.setTop f) acts (some w)).1 = T.setFrames fs) : Steps p.tables e below (T.setTop (mkF m pc Ls (w :: rest))) (T.setFrames fs) := by
  have hm' : T.vm.method? m = some meth := X.method'
  show Steps p.tables e below (T.setTop { method := m, pc := pc, locals := Ls, stack := _ :: rest, locked := none }) _
  jvm_step X.here [X.here.top, hx, hd, hm', hret, hw, hty]
  first | (intro acts; rw [hl _ acts rfl rfl rfl]) | rw [hl _ _ rfl rfl rfl]
  exact Steps.refl _
theorem own_retL (X : Stand p l e R s m args below meth c T locs cells slots) (hx : p.tables.exec = Jvm.exec) {pc : Nat} {Ls : Array Slot} {z : Int64} {rest : List Value} (hret : meth.sig.returnType = some .long) (hd : decode c.code pc = .ok (.lreturn, 1)) {fs : List Frame}
    (hl : ∀ (f : JFrame) (acts : List Action), f.method = m → f.locked = none → f.entered = [] → (doReturn e (T.setTop f) acts (some (.long z))).1 = T.setFrames fs) : Steps p.tables e below (T.setTop (mkF m pc Ls (.long z :: rest))) (T.setFrames fs) := by
  have hm' : T.vm.method? m = some meth := X.method'
  show Steps p.tables e below (T.setTop { method := m, pc := pc, locals := Ls, stack := _ :: rest, locked := none }) _
  jvm_step X.here [X.here.top, hx, hd, hm', hret]
  first | (intro acts; rw [hl _ acts rfl rfl rfl]) | rw [hl _ _ rfl rfl rfl]
  exact Steps.refl _
theorem own_retDbl (X : Stand p l e R s m args below meth c T locs cells slots) (hx : p.tables.exec = Jvm.exec) {pc : Nat} {Ls : Array Slot} {z : UInt64} {rest : List Value} (hret : meth.sig.returnType = some .double) (hd : decode c.code pc = .ok (.dreturn, 1)) {fs : List Frame}
    (hl : ∀ (f : JFrame) (acts : List Action), f.method = m → f.locked = none → f.entered = [] → (doReturn e (T.setTop f) acts (some (.double z))).1 = T.setFrames fs) : Steps p.tables e below (T.setTop (mkF m pc Ls (.double z :: rest))) (T.setFrames fs) := by
  have hm' : T.vm.method? m = some meth := X.method'
  show Steps p.tables e below (T.setTop { method := m, pc := pc, locals := Ls, stack := _ :: rest, locked := none }) _
  jvm_step X.here [X.here.top, hx, hd, hm', hret]
  first | (intro acts; rw [hl _ acts rfl rfl rfl]) | rw [hl _ _ rfl rfl rfl]
  exact Steps.refl _
/-- what is left to be shown from the state A on: the run comes back, and Q holds of what it leaves -/
def OwnG (p : Program) (e : Env) (below : List Frame) (s : State) (Q : Option Value → Heap → List Loc → Prop) (rc rs : Nat) (A : State) : Prop :=
  ∃ s₂ o, Steps p.tables e below A s₂ ∧ s₂.status = .running ∧ Ended s₂ below o ∧ ∃ v L, o = .returned v ∧ Q v s₂.heap L ∧ FrameEnd s o s₂ L rc rs
theorem own_by {A B : State} (k : ∀ t, Steps p.tables e below B t → Steps p.tables e below A t) (h : OwnG p e below s Q rc rs B) : OwnG p e below s Q rc rs A := by
  obtain ⟨s₂, o, h1, r⟩ := h
  exact ⟨s₂, o, k _ h1, r⟩
theorem own_out (X : Stand p l e R s m args below meth c T locs cells slots) {v : Option Value} (hv : meth.sig.returnType = none → v = none) (hlk : meth.locks = false) {A : State}
    (k : ∀ fs, (∀ (f : JFrame) (acts : List Action), f.method = m → f.locked = none → f.entered = [] → (doReturn e (T.setTop f) acts v).1 = T.setFrames fs) → Steps p.tables e below A (T.setFrames fs)) (hQ : Q v T.heap locs) (hc : cells ≤ rc) (hs : slots ≤ rs) : OwnG p e below s Q rc rs A := by
  obtain ⟨fs, hr, hrun, hended, hW, hsame⟩ := X.leave (v := v) hv hlk
  exact ⟨_, _, k fs hr, hrun, hended, _, _, rfl, hQ, ⟨_, rfl⟩, hW, hsame.mono hc hs⟩
theorem own_outI (X : Stand p l e R s m args below meth c T locs cells slots) (hx : p.tables.exec = Jvm.exec) {pc : Nat} {Ls : Array Slot} {z : Int32} {rest : List Value} (hret : meth.sig.returnType = some .int) (hlk : meth.locks = false) (hd : decode c.code pc = .ok (.ireturn, 1)) (hQ : Q (some (.int z)) T.heap locs) (hc : cells ≤ rc) (hs : slots ≤ rs) :
    OwnG p e below s Q rc rs (T.setTop (mkF m pc Ls (.int z :: rest))) :=
  own_out X (v := some (.int z)) (fun h => by rw [hret] at h; cases h) hlk (fun fs hr => retI X hx hret hd hr) hQ hc hs
theorem own_outA (X : Stand p l e R s m args below meth c T locs cells slots) (hx : p.tables.exec = Jvm.exec) {pc : Nat} {Ls : Array Slot} {w : Value} {ty : FieldType} {rest : List Value} (hw : w.isRef = true) (hty : ty.isReference = true) (hret : meth.sig.returnType = some ty) (hlk : meth.locks = false) (hd : decode c.code pc = .ok (.areturn, 1)) (hQ : Q (some w) T.heap locs) (hc : cells ≤ rc) (hs : slots ≤ rs) :
    OwnG p e below s Q rc rs (T.setTop (mkF m pc Ls (w :: rest))) :=
  own_out X (v := some w) (fun h => by rw [hret] at h; cases h) hlk (fun fs hr => own_retA X hx hw hty hret hd hr) hQ hc hs
theorem own_outL (X : Stand p l e R s m args below meth c T locs cells slots) (hx : p.tables.exec = Jvm.exec) {pc : Nat} {Ls : Array Slot} {z : Int64} {rest : List Value} (hret : meth.sig.returnType = some .long) (hlk : meth.locks = false) (hd : decode c.code pc = .ok (.lreturn, 1)) (hQ : Q (some (.long z)) T.heap locs) (hc : cells ≤ rc) (hs : slots ≤ rs) :
    OwnG p e below s Q rc rs (T.setTop (mkF m pc Ls (.long z :: rest))) :=
  own_out X (v := some (.long z)) (fun h => by rw [hret] at h; cases h) hlk (fun fs hr => own_retL X hx hret hd hr) hQ hc hs
theorem own_outD (X : Stand p l e R s m args below meth c T locs cells slots) (hx : p.tables.exec = Jvm.exec) {pc : Nat} {Ls : Array Slot} {z : UInt64} {rest : List Value} (hret : meth.sig.returnType = some .double) (hlk : meth.locks = false) (hd : decode c.code pc = .ok (.dreturn, 1)) (hQ : Q (some (.double z)) T.heap locs) (hc : cells ≤ rc) (hs : slots ≤ rs) :
    OwnG p e below s Q rc rs (T.setTop (mkF m pc Ls (.double z :: rest))) :=
  own_out X (v := some (.double z)) (fun h => by rw [hret] at h; cases h) hlk (fun fs hr => own_retDbl X hx hret hd hr) hQ hc hs
theorem own_outV (X : Stand p l e R s m args below meth c T locs cells slots) (hx : p.tables.exec = Jvm.exec) {pc : Nat} {Ls : Array Slot} (hret : meth.sig.returnType = none) (hlk : meth.locks = false) (hd : decode c.code pc = .ok (.return_, 1)) (hQ : Q none T.heap locs) (hc : cells ≤ rc) (hs : slots ≤ rs) :
    OwnG p e below s Q rc rs (T.setTop (mkF m pc Ls [])) :=
  own_out X (v := none) (fun _ => rfl) hlk (fun fs hr => X.returnOut hx hret hd hr) hQ hc hs
theorem own_outN (X : Stand p l e R s m args below meth c T locs cells slots) (hx : p.tables.exec = Jvm.exec) {pc : Nat} {Ls : Array Slot} {z z' : Int32} {t : FieldType} {rest : List Value} (hret : meth.sig.returnType = some t) (ht : t = .boolean ∨ t = .byte ∨ t = .char ∨ t = .short) (hlk : meth.locks = false) (hd : decode c.code pc = .ok (.ireturn, 1)) (hz : nar t z = z') (hQ : Q (some (.int z')) T.heap locs) (hc : cells ≤ rc) (hs : slots ≤ rs) :
    OwnG p e below s Q rc rs (T.setTop (mkF m pc Ls (.int z :: rest))) := by
  subst hz
  exact own_out X (v := some (.int (nar t z))) (fun h => by rw [hret] at h; cases h) hlk (fun fs hr => retN X hx (t := t) hret (by rcases ht with rfl | rfl | rfl | rfl <;> simp) hd hr) hQ hc hs
theorem own_met {y : MethodName} {bytes : ByteArray} {maxL : Nat} {ret : Option FieldType} {rm : Room} {ws : List Cond} {as' : Array Value} {Z : State} {h0 : Heap} (hpl : plainFor y = true)
    (body : ∀ (p : Program) (e : Env) (s : State) (m : MethodId) (below : List Frame) (meth : Method) (c : Code) (s₁ : State), p.tables.exec = Jvm.exec → c.code = bytes → c.maxLocals = maxL → meth.sig.returnType = ret → meth.locks = false → s.vm.findClass y.cls = some m.cls → meth.name = y.name → Z.Warmed39 s.vm →
      Stand p l e rm s m as' below meth c s₁ [] 0 0 → s₁.heap = h0 → OwnG p e below s Q rm.cells rm.slots (s₁.setTop (entryFrame m as' maxL))) :
    MetFree l y (head1 (Cond.code y bytes maxL ret :: ws) rm) (fun a U => a = as' ∧ Z.Warmed39 U.vm ∧ U.heap = h0) (fun _ _ _ _ _ => True) (fun _ U o U' => ∃ v L, o = .returned v ∧ Q v U'.heap L ∧ FrameEnd U o U' L rm.cells rm.slots) := by
  refine MetFree.of_bodySF hpl hisR ?_
  intro p e s m args below meth c s₁ Bd hml0 hP hK
  obtain ⟨rfl, hZ, hh⟩ := hP
  have e0 : s₁.heap = h0 := by rw [← hh, Bd.state]; rfl
  exact body p e s m below meth c s₁ Bd.exec Bd.bytes hml0 Bd.returns Bd.notSynchronized (findClass_of_methodNamed Bd.named) (name_of_methodNamed Bd.named Bd.method).1 hZ (Stand.of_body Bd) e0
theorem own_pop2J {tb : Tables} [Ours tb] {target : State} {g : JFrame} (h : At T m c below) (hx : tb.exec = Jvm.exec) (hg : g.method = m) {x : Int64} {rest : List Value} (hd : decode c.code g.pc = .ok (.pop2, 1)) (hs : g.stack = .long x :: rest)
    (hr : Steps tb e below (T.setTop { g with pc := g.pc + 1, stack := rest }) target) : Steps tb e below (T.setTop g) target := by
  subst hg
  jvm_step h [h.top, hx, hd, hs, Value.category]
  exact hr
theorem own_dup2I {tb : Tables} [Ours tb] {target : State} {g : JFrame} (h : At T m c below) (hx : tb.exec = Jvm.exec) (hg : g.method = m) {x : Int32} {a : Addr} {rest : List Value} (hd : decode c.code g.pc = .ok (.dup2, 1)) (hs : g.stack = .int x :: .ref a :: rest)
    (hr : Steps tb e below (T.setTop { g with pc := g.pc + 1, stack := .int x :: .ref a :: .int x :: .ref a :: rest }) target) : Steps tb e below (T.setTop g) target := by
  subst hg
  jvm_step h [h.top, hx, hd, hs, Value.category]
  exact hr
theorem own_selp {Z s : State} {a0 args : Array Value} {y : MethodName} {n : Nat} (hZ : Z.Warmed39 s.vm) (wi : (Cond.instantiable y.cls n).before a0 Z = true) (wp : (Cond.privateMethod y).before a0 Z = true) (wm : (Cond.instanceMethod y).before a0 Z = true) (hy : y.cls ≠ "java/lang/invoke/MethodHandle" ∧ y.cls ≠ "java/lang/invoke/VarHandle") : (Cond.selects y.cls y y).before args s = true := by
  obtain ⟨c, k, h1, h2, -, h4, -⟩ := Cond.instantiable_spec (mv (args := args) hZ wi)
  exact selects_self_of_private h1 h2 (Bool.or_eq_false_iff.mp h4).1 (Cond.privateMethod_at (mvP hZ wp (args := #[]))) (mvT hZ wm) hy
end OwnKit
end Jvm.RoadKit
namespace Jvm.RoadKit
open Sem ClassFile Op Lib Jvm.Stand Jvm.Free Jvm.LawKit
section OwnArr
variable {p : Program} {l : Launch} {e : Env} {R : Room} {s : State} {m : MethodId} {args : Array Value} {below : List Frame} {meth : Method} {c : Code} {T : State} {locs : List Loc} {cells slots : Nat} {Z : State} {h h' : Heap} {a b : Addr} {ty : FieldType} {n : Nat} {f : Nat → Value}
/-- the array at a: its kind, its length, its components as a function of the place -/
def OwnA (Z : State) (h : Heap) (a : Addr) (ty : FieldType) (n : Nat) (f : Nat → Value) : Prop := ∃ c : Cell, Arr Z h a c ty ∧ c.slots.size = n ∧ n < 2 ^ 31 ∧ ∀ k, k < n → c.slots[k]? = some (f k)
def ownSet (f : Nat → Value) (i : Nat) (v : Value) : Nat → Value := fun k => if k = i then v else f k
theorem OwnA.lt (A : OwnA Z h a ty n f) : a < h.size := by obtain ⟨c, A, -⟩ := A; exact A.lt
theorem OwnA.ext (E : Ext h h') (A : OwnA Z h a ty n f) : OwnA Z h' a ty n f := by obtain ⟨c, A, r⟩ := A; exact ⟨c, A.ext E, r⟩
theorem OwnA.other {sl : Nat} {v : Value} (W : Wr h h' b sl v) (A : OwnA Z h a ty n f) (q : a ≠ b) : OwnA Z h' a ty n f := by obtain ⟨c, A, r⟩ := A; exact ⟨c, A.other W q, r⟩
theorem OwnA.keep {ws : List Addr} (A : OwnA Z h a ty n f) (K : Keep h h' ws) (q : a ∉ ws) : OwnA Z h' a ty n f := by obtain ⟨c, A, r⟩ := A; exact ⟨c, ⟨K.2.1 a c A.1 q, A.2⟩, r⟩
theorem OwnA.set {i : Nat} {v : Value} (W : Wr h h' a i v) (A : OwnA Z h a ty n f) (hi : i < n) : OwnA Z h' a ty n (ownSet f i v) := by
  obtain ⟨c, A, hn, hb, r⟩ := A
  refine ⟨_, A.same W, by simp [Cell.setSlot, hn], hb, fun k hk => ?_⟩
  by_cases e : k = i
  · subst e
    simp [Cell.setSlot, ownSet, hn, hi]
  · simp only [ownSet, if_neg e]
    rw [← r k hk]
    exact Array.getElem?_setIfInBounds_ne (Ne.symm e)
theorem OwnA.new {k : ClassId} {z : Int32} (A : Arr Z h a (newA k ty z) ty) {n : Nat} (q : ¬ z < 0) (hn : z.toNatClampNeg = n) : OwnA Z h a ty n (fun _ => defaultValue ty) := by
  subst hn
  refine ⟨_, A, sz_new _ _ _, (back32 q).2, fun i hi => ?_⟩
  simp [newA, hi]
theorem OwnA.bound (A : OwnA Z h a ty n f) : n < 2 ^ 31 := by obtain ⟨_, _, _, hb, _⟩ := A; exact hb
theorem OwnA.congr {f' : Nat → Value} (A : OwnA Z h a ty n f) (q : ∀ k, k < n → f k = f' k) : OwnA Z h a ty n f' := by
  obtain ⟨c, A, hn, hb, r⟩ := A
  exact ⟨c, A, hn, hb, fun k hk => by rw [r k hk, q k hk]⟩
theorem own_inb {c : Cell} {j : Int32} {i : Nat} (hn : c.slots.size = n) (hj : ¬ j < 0 ∧ j.toNatClampNeg = i ∧ i < n) : ¬ (j < 0 ∨ c.slots.size ≤ j.toNatClampNeg) := by
  rintro (q | q)
  · exact hj.1 q
  · rw [hn, hj.2.1] at q; exact absurd hj.2.2 (Nat.not_lt.mpr q)
theorem own_ldI (X : Stand p l e R s m args below meth c T locs cells slots) (hx : p.tables.exec = Jvm.exec) (hZ : Z.Warmed39 s.vm) (eT : T.heap = h) (A : OwnA Z h a .int n f) {j : Int32} {i : Nat} (hj : ¬ j < 0 ∧ j.toNatClampNeg = i ∧ i < n) {v : Value} (hv : f i = v) {g : JFrame} (hg : g.method = m) {rest : List Value} (hs : g.stack = .int j :: .ref a :: rest) (hd : decode c.code g.pc = .ok (.iaload, 1)) (target : State)
    (k : Steps p.tables e below (T.setTop { g with pc := g.pc + 1, stack := v :: rest }) target) : Steps p.tables e below (T.setTop g) target := by
  obtain ⟨cl, A, hn, hb, r⟩ := A
  exact X.iaload hx (j := j) (v := v) (by rw [eT]; exact A.1) (State.isArrayOf_alike hZ.alike A.2.1) A.2.2 (own_inb hn hj) (by rw [hj.2.1, r i hj.2.2, hv]) hg hs hd target k
theorem own_ldB (X : Stand p l e R s m args below meth c T locs cells slots) (hx : p.tables.exec = Jvm.exec) (hZ : Z.Warmed39 s.vm) (eT : T.heap = h) (A : OwnA Z h a .byte n f) {j : Int32} {i : Nat} (hj : ¬ j < 0 ∧ j.toNatClampNeg = i ∧ i < n) {v : Value} (hv : f i = v) {g : JFrame} (hg : g.method = m) {rest : List Value} (hs : g.stack = .int j :: .ref a :: rest) (hd : decode c.code g.pc = .ok (.baload, 1)) (target : State)
    (k : Steps p.tables e below (T.setTop { g with pc := g.pc + 1, stack := v :: rest }) target) : Steps p.tables e below (T.setTop g) target := by
  obtain ⟨cl, A, hn, hb, r⟩ := A
  exact X.baloadBytes hx (j := j) (v := v) (by rw [eT]; exact A.1) (State.isArrayOf_alike hZ.alike A.2.1) A.2.2 (own_inb hn hj) (by rw [hj.2.1, r i hj.2.2, hv]) hg hs hd target k
theorem own_ldJ (X : Stand p l e R s m args below meth c T locs cells slots) (hx : p.tables.exec = Jvm.exec) (hZ : Z.Warmed39 s.vm) (eT : T.heap = h) (A : OwnA Z h a .long n f) {j : Int32} {i : Nat} (hj : ¬ j < 0 ∧ j.toNatClampNeg = i ∧ i < n) {v : Value} (hv : f i = v) {g : JFrame} (hg : g.method = m) {rest : List Value} (hs : g.stack = .int j :: .ref a :: rest) (hd : decode c.code g.pc = .ok (.laload, 1)) (target : State)
    (k : Steps p.tables e below (T.setTop { g with pc := g.pc + 1, stack := v :: rest }) target) : Steps p.tables e below (T.setTop g) target := by
  obtain ⟨cl, A, hn, hb, r⟩ := A
  exact X.laload hx (j := j) (v := v) (by rw [eT]; exact A.1) (State.isArrayOf_alike hZ.alike A.2.1) A.2.2 (own_inb hn hj) (by rw [hj.2.1, r i hj.2.2, hv]) hg hs hd target k
theorem own_ldR (X : Stand p l e R s m args below meth c T locs cells slots) (hx : p.tables.exec = Jvm.exec) (hZ : Z.Warmed39 s.vm) (eT : T.heap = h) (A : OwnA Z h a ty n f) {j : Int32} {i : Nat} (hj : ¬ j < 0 ∧ j.toNatClampNeg = i ∧ i < n) {v : Value} (hv : f i = v) (hty : ty.isReference = true) {g : JFrame} (hg : g.method = m) {rest : List Value} (hs : g.stack = .int j :: .ref a :: rest) (hd : decode c.code g.pc = .ok (.aaload, 1)) (target : State)
    (k : Steps p.tables e below (T.setTop { g with pc := g.pc + 1, stack := v :: rest }) target) : Steps p.tables e below (T.setTop g) target := by
  obtain ⟨cl, A, hn, hb, r⟩ := A
  exact X.aaload hx (j := j) (v := v) (by rw [eT]; exact A.1) (State.isArrayOf_alike hZ.alike A.2.1) hty A.2.2 (own_inb hn hj) (by rw [hj.2.1, r i hj.2.2, hv]) hg hs hd target k
theorem own_len (X : Stand p l e R s m args below meth c T locs cells slots) (hx : p.tables.exec = Jvm.exec) (hZ : Z.Warmed39 s.vm) (eT : T.heap = h) (A : OwnA Z h a ty n f) {z : Int32} (hz : n.toInt32 = z) {g : JFrame} (hg : g.method = m) {rest : List Value} (hs : g.stack = .ref a :: rest) (hd : decode c.code g.pc = .ok (.arraylength, 1)) (target : State)
    (k : Steps p.tables e below (T.setTop { g with pc := g.pc + 1, stack := .int z :: rest }) target) : Steps p.tables e below (T.setTop g) target := by
  obtain ⟨cl, A, hn, hb, r⟩ := A
  refine X.arraylength hx (by rw [eT]; exact A.1) (State.isArrayOf_alike hZ.alike A.2.1) hg hs hd target ?_
  rw [hn, hz]; exact k
theorem own_stI (X : Stand p l e R s m args below meth c T locs cells slots) (hx : p.tables.exec = Jvm.exec) (hZ : Z.Warmed39 s.vm) (eT : T.heap = h) (A : OwnA Z h a .int n f) {j : Int32} {i : Nat} (hj : ¬ j < 0 ∧ j.toNatClampNeg = i ∧ i < n) {x : Int32} {g : JFrame} (hg : g.method = m) {rest : List Value} (hs : g.stack = .int x :: .int j :: .ref a :: rest) (hd : decode c.code g.pc = .ok (.iastore, 1)) :
    ∃ T' h', Stand p l e R s m args below meth c T' (locs ++ [⟨a, i⟩]) cells slots ∧ T'.heap = h' ∧ Wr h h' a i (.int x) ∧ OwnA Z h' a .int n (ownSet f i (.int x)) ∧ ∀ target, Steps p.tables e below (T'.setTop { g with pc := g.pc + 1, stack := rest }) target → Steps p.tables e below (T.setTop g) target := by
  obtain ⟨cl, A', hn, hb, r⟩ := A
  obtain ⟨T', h', X', e', W, st⟩ := stI X hx hZ eT A' (j := j) (x := x) (own_inb hn hj) hg hs hd
  rw [hj.2.1] at X' W
  exact ⟨T', h', X', e', W, OwnA.set W ⟨cl, A', hn, hb, r⟩ hj.2.2, st⟩
theorem own_stJ (X : Stand p l e R s m args below meth c T locs cells slots) (hx : p.tables.exec = Jvm.exec) (hZ : Z.Warmed39 s.vm) (eT : T.heap = h) (A : OwnA Z h a .long n f) {j : Int32} {i : Nat} (hj : ¬ j < 0 ∧ j.toNatClampNeg = i ∧ i < n) {x : Int64} {g : JFrame} (hg : g.method = m) {rest : List Value} (hs : g.stack = .long x :: .int j :: .ref a :: rest) (hd : decode c.code g.pc = .ok (.lastore, 1)) :
    ∃ T' h', Stand p l e R s m args below meth c T' (locs ++ [⟨a, i⟩]) cells slots ∧ T'.heap = h' ∧ Wr h h' a i (.long x) ∧ OwnA Z h' a .long n (ownSet f i (.long x)) ∧ ∀ target, Steps p.tables e below (T'.setTop { g with pc := g.pc + 1, stack := rest }) target → Steps p.tables e below (T.setTop g) target := by
  obtain ⟨cl, A', hn, hb, r⟩ := A
  obtain ⟨T', h', X', e', W, st⟩ := stJ X hx hZ eT A' (j := j) (x := x) (own_inb hn hj) hg hs hd
  rw [hj.2.1] at X' W
  exact ⟨T', h', X', e', W, OwnA.set W ⟨cl, A', hn, hb, r⟩ hj.2.2, st⟩
theorem own_stB (X : Stand p l e R s m args below meth c T locs cells slots) (hx : p.tables.exec = Jvm.exec) (hZ : Z.Warmed39 s.vm) (eT : T.heap = h) (A : OwnA Z h a .byte n f) {j : Int32} {i : Nat} (hj : ¬ j < 0 ∧ j.toNatClampNeg = i ∧ i < n) {x : Int32} {g : JFrame} (hg : g.method = m) {rest : List Value} (hs : g.stack = .int x :: .int j :: .ref a :: rest) (hd : decode c.code g.pc = .ok (.bastore, 1)) :
    ∃ T' h', Stand p l e R s m args below meth c T' (locs ++ [⟨a, i⟩]) cells slots ∧ T'.heap = h' ∧ Wr h h' a i (.int (nar .byte x)) ∧ OwnA Z h' a .byte n (ownSet f i (.int (nar .byte x))) ∧ ∀ target, Steps p.tables e below (T'.setTop { g with pc := g.pc + 1, stack := rest }) target → Steps p.tables e below (T.setTop g) target := by
  obtain ⟨cl, A', hn, hb, r⟩ := A
  obtain ⟨T', h', X', e', W, st⟩ := stB X hx hZ eT A' (j := j) (x := x) (own_inb hn hj) hg hs hd
  rw [hj.2.1] at X' W
  exact ⟨T', h', X', e', W, OwnA.set W ⟨cl, A', hn, hb, r⟩ hj.2.2, st⟩
theorem own_ldC (X : Stand p l e R s m args below meth c T locs cells slots) (hx : p.tables.exec = Jvm.exec) (hZ : Z.Warmed39 s.vm) (eT : T.heap = h) (A : OwnA Z h a .char n f) {j : Int32} {i : Nat} (hj : ¬ j < 0 ∧ j.toNatClampNeg = i ∧ i < n) {v : Value} (hv : f i = v) {g : JFrame} (hg : g.method = m) {rest : List Value} (hs : g.stack = .int j :: .ref a :: rest) (hd : decode c.code g.pc = .ok (.caload, 1)) (target : State)
    (k : Steps p.tables e below (T.setTop { g with pc := g.pc + 1, stack := v :: rest }) target) : Steps p.tables e below (T.setTop g) target := by
  obtain ⟨cl, A, hn, hb, r⟩ := A
  exact X.caload hx (j := j) (v := v) (by rw [eT]; exact A.1) (State.isArrayOf_alike hZ.alike A.2.1) A.2.2 (own_inb hn hj) (by rw [hj.2.1, r i hj.2.2, hv]) hg hs hd target k
theorem own_stC (X : Stand p l e R s m args below meth c T locs cells slots) (hx : p.tables.exec = Jvm.exec) (hZ : Z.Warmed39 s.vm) (eT : T.heap = h) (A : OwnA Z h a .char n f) {j : Int32} {i : Nat} (hj : ¬ j < 0 ∧ j.toNatClampNeg = i ∧ i < n) {x : Int32} {g : JFrame} (hg : g.method = m) {rest : List Value} (hs : g.stack = .int x :: .int j :: .ref a :: rest) (hd : decode c.code g.pc = .ok (.castore, 1)) :
    ∃ T' h', Stand p l e R s m args below meth c T' (locs ++ [⟨a, i⟩]) cells slots ∧ T'.heap = h' ∧ Wr h h' a i (.int (nar .char x)) ∧ OwnA Z h' a .char n (ownSet f i (.int (nar .char x))) ∧ ∀ target, Steps p.tables e below (T'.setTop { g with pc := g.pc + 1, stack := rest }) target → Steps p.tables e below (T.setTop g) target := by
  obtain ⟨cl, A', hn, hb, r⟩ := A
  obtain ⟨T', h', X', e', W, st⟩ := stC X hx hZ eT A' (j := j) (x := x) (own_inb hn hj) hg hs hd
  rw [hj.2.1] at X' W
  exact ⟨T', h', X', e', W, OwnA.set W ⟨cl, A', hn, hb, r⟩ hj.2.2, st⟩
theorem own_ldD (X : Stand p l e R s m args below meth c T locs cells slots) (hx : p.tables.exec = Jvm.exec) (hZ : Z.Warmed39 s.vm) (eT : T.heap = h) (A : OwnA Z h a .double n f) {j : Int32} {i : Nat} (hj : ¬ j < 0 ∧ j.toNatClampNeg = i ∧ i < n) {v : Value} (hv : f i = v) {g : JFrame} (hg : g.method = m) {rest : List Value} (hs : g.stack = .int j :: .ref a :: rest) (hd : decode c.code g.pc = .ok (.daload, 1)) (target : State)
    (k : Steps p.tables e below (T.setTop { g with pc := g.pc + 1, stack := v :: rest }) target) : Steps p.tables e below (T.setTop g) target := by
  obtain ⟨cl, A, hn, hb, r⟩ := A
  exact X.daload hx (j := j) (v := v) (by rw [eT]; exact A.1) (State.isArrayOf_alike hZ.alike A.2.1) A.2.2 (own_inb hn hj) (by rw [hj.2.1, r i hj.2.2, hv]) hg hs hd target k
theorem own_stD (X : Stand p l e R s m args below meth c T locs cells slots) (hx : p.tables.exec = Jvm.exec) (hZ : Z.Warmed39 s.vm) (eT : T.heap = h) (A : OwnA Z h a .double n f) {j : Int32} {i : Nat} (hj : ¬ j < 0 ∧ j.toNatClampNeg = i ∧ i < n) {x : UInt64} {g : JFrame} (hg : g.method = m) {rest : List Value} (hs : g.stack = .double x :: .int j :: .ref a :: rest) (hd : decode c.code g.pc = .ok (.dastore, 1)) :
    ∃ T' h', Stand p l e R s m args below meth c T' (locs ++ [⟨a, i⟩]) cells slots ∧ T'.heap = h' ∧ Wr h h' a i (.double x) ∧ OwnA Z h' a .double n (ownSet f i (.double x)) ∧ ∀ target, Steps p.tables e below (T'.setTop { g with pc := g.pc + 1, stack := rest }) target → Steps p.tables e below (T.setTop g) target := by
  obtain ⟨cl, A', hn, hb, r⟩ := A
  obtain ⟨T', h', X', e', W, st⟩ := stD X hx hZ eT A' (j := j) (x := x) (own_inb hn hj) hg hs hd
  rw [hj.2.1] at X' W
  exact ⟨T', h', X', e', W, OwnA.set W ⟨cl, A', hn, hb, r⟩ hj.2.2, st⟩
end OwnArr
end Jvm.RoadKit
namespace Jvm.Pilot.@@N@@
open Jvm Jvm.ClassFile Sem Op Lib Jvm.Free Jvm.Stand Jvm.LawKit Jvm.RoadKit Bundle Jvm.Pilot.@@N@@.Jvm.D
theorem own_ofNat (i : Nat) (h : i < 2 ^ 31) : i.toInt32.toInt = i := len_toInt h
theorem own_msk (x : Int32) (m : Int32) (k : Nat) (hk : k ≤ 31) (hm : m.toBitVec.toNat = 2 ^ k - 1) : ∃ n : Nat, n < 2 ^ k ∧ x &&& m = n.toInt32 := by
  have e := c_mask x m k hk hm
  have b1 := Int.emod_nonneg x.toInt (show ((2 ^ k : Nat) : Int) ≠ 0 from by have := Nat.two_pow_pos k; omega)
  have b2 := Int.emod_lt_of_pos x.toInt (show (0 : Int) < ((2 ^ k : Nat) : Int) from by have := Nat.two_pow_pos k; omega)
  have b3 : 2 ^ k ≤ 2 ^ 31 := Nat.pow_le_pow_right (by decide) hk
  refine ⟨(x.toInt % ((2 ^ k : Nat) : Int)).toNat, by omega, ?_⟩
  apply Int32.toInt_inj.mp
  rw [e, own_ofNat _ (by omega)]
  omega
theorem own_irem (x y : Int32) : x - (x / y) * y = x % y := Jvm.irem_eq_mod x y
theorem own_remN (z y : Nat) (hz : z < 2 ^ 31) (hy : 0 < y) (hy2 : y < 2 ^ 31) : z.toInt32 - (z.toInt32 / y.toInt32) * y.toInt32 = (z % y).toInt32 := by
  rw [own_irem]
  apply Int32.toInt_inj.mp
  have h0 := own_ofNat z hz
  have hz' := (c_irem z.toInt32 y.toInt32 y (own_ofNat y hy2)).1 (by omega)
  have := Nat.mod_lt z hy
  rw [hz', h0, own_ofNat _ (by omega)]
  omega
def own_r (x : Int32) : Int32 := (x ^^^ (-1 : Int32)) &&& (x - (1 : Int32))
def own_tz (x : Int32) : Int32 := if own_r x = 0 then 0 else if own_r x = 1 then 1 else if own_r x = 3 then 2 else 3
def own_q (x : Int32) : Prop := own_r x = 0 ∨ own_r x = 1 ∨ own_r x = 3 ∨ own_r x = 7
def own_x (M : Int64) (c : Int32) : Int64 := (M ^^^ (-1 : Int64)) &&& ((-1 : Int64) <<< (c &&& 0x3f).toInt64)
def own_or (M : Int64) (d : Int32) : Int64 := M ||| ((1 : Int64) <<< (d &&& 0x3f).toInt64)
def own_c (M : Int64) : Int32 := if M = 0 then 0 else if M = 1 then 1 else if M = 2 then 0 else if M = 3 then 2 else if M = 4 then 0 else if M = 5 then 1 else if M = 6 then 0 else 3
def own_m (M : Int64) : Prop := M = 0 ∨ M = 1 ∨ M = 2 ∨ M = 3 ∨ M = 4 ∨ M = 5 ∨ M = 6 ∨ M = 7
def own_d (d : Int32) : Prop := d = 0 ∨ d = 1 ∨ d = 2
/-- what nextClearBit meets: the word M, the place c, its answer r -/
def own_good (M : Int64) (c r : Int32) : Prop := ¬ c < 0 ∧ (c >>> ((6 : Int32) &&& 31)) = 0 ∧ ¬ own_x M c = 0 ∧ ¬ (own_x M c).toInt32 = 0 ∧ own_q (own_x M c).toInt32 ∧ (0 : Int32) + own_tz (own_x M c).toInt32 = r
instance (x : Int32) : Decidable (own_q x) := by unfold own_q; infer_instance
instance (M : Int64) (c r : Int32) : Decidable (own_good M c r) := by unfold own_good; infer_instance
instance (M : Int64) : Decidable (own_m M) := by unfold own_m; infer_instance
theorem own_gd {M : Int64} {d : Int32} (h : own_m M) (hd : own_d d) : own_good (own_or M d) (own_c M) (own_c (own_or M d)) ∧ own_m (own_or M d) := by
  rcases h with rfl | rfl | rfl | rfl | rfl | rfl | rfl | rfl <;> rcases hd with rfl | rfl | rfl <;> decide +kernel
theorem own_ds {d : Int32} (hd : own_d d) : ¬ d < 0 ∧ (d >>> ((6 : Int32) &&& 31)) = 0 := by
  rcases hd with rfl | rfl | rfl <;> decide
def own_o (M : Int64) (f d : Int32) : Int64 := if f = 0 then M else own_or M d
def own_set (M : Int64) (f0 f1 f2 : Int32) : Int64 := own_o (own_o (own_o M f0 0) f1 1) f2 2
theorem own_cm (M : Int64) (a b : Int32) : own_or (own_or M a) b = own_or (own_or M b) a := by
  unfold own_or
  rw [Int64.or_assoc, Int64.or_assoc, Int64.or_comm ((1 : Int64) <<< (a &&& 0x3f).toInt64)]
def own_lt (c p : Int32) : Int32 := if c < p then 1 else 0
def own_e2 (k p q : Int32) : Int32 := if ((0 : Int32) < k ∧ p = 0) ∨ ((1 : Int32) < k ∧ q = 0) then 1 else 0
def own_or2 (p q : Int32) : Int32 := if p = 0 then (if q = 0 then 0 else 1) else 1
def own_e3 (k p q r : Int32) : Int32 := if ((0 : Int32) < k ∧ p = 0) ∨ ((1 : Int32) < k ∧ q = 0) ∨ ((2 : Int32) < k ∧ r = 0) then 1 else 0
def own_z (x : Int32) : Prop := x = 0 ∨ x = 1
theorem own_h1 {k pa pb : Int32} (hk : k = 0 ∨ k = 1 ∨ k = 2) (ha : own_z pa) (hb : own_z pb) : own_lt (own_c (own_set 0 pa pb 0)) k = own_e2 k pa pb := by
  rcases hk with rfl | rfl | rfl <;> rcases ha with rfl | rfl <;> rcases hb with rfl | rfl <;> decide +kernel
theorem own_h2 {k pa pb qa qb qc : Int32} (hk : k = 0 ∨ k = 1 ∨ k = 2 ∨ k = 3) (ha : own_z pa) (hb : own_z pb) (hc : own_z qa) (hd : own_z qb) (he : own_z qc) : own_lt (own_c (own_set (own_set 0 pa pb 0) qa qb qc)) k = own_e3 k (own_or2 pa qa) (own_or2 pb qb) qc := by
  rcases hk with rfl | rfl | rfl | rfl <;> rcases ha with rfl | rfl <;> rcases hb with rfl | rfl <;> rcases hc with rfl | rfl <;> rcases hd with rfl | rfl <;> rcases he with rfl | rfl <;> decide +kernel
theorem own_n3 (a : Int32) : (a &&& (2147483647 : Int32)) - ((a &&& (2147483647 : Int32)) / (3 : Int32)) * (3 : Int32) = 0 ∨ (a &&& (2147483647 : Int32)) - ((a &&& (2147483647 : Int32)) / (3 : Int32)) * (3 : Int32) = 1 ∨ (a &&& (2147483647 : Int32)) - ((a &&& (2147483647 : Int32)) / (3 : Int32)) * (3 : Int32) = 2 := by
  obtain ⟨n, hn, e⟩ := own_msk a 2147483647 31 (by decide) (by decide)
  rw [e, show (3 : Int32) = (3 : Nat).toInt32 from rfl, own_remN n 3 (by omega) (by decide) (by decide)]
  have h := Nat.mod_lt n (show 0 < 3 by decide)
  rcases (show n % 3 = 0 ∨ n % 3 = 1 ∨ n % 3 = 2 by omega) with q | q | q <;> rw [q] <;> decide
theorem own_b1 (b : Int32) : own_z (b &&& (1 : Int32)) := by
  obtain ⟨n, hn, e⟩ := own_msk b 1 1 (by decide) (by decide)
  rw [e]
  rcases (show n = 0 ∨ n = 1 by omega) with q | q <;> rw [q]
  · exact Or.inl rfl
  · exact Or.inr rfl
theorem own_ev {args : Array Value} {first : State} {o : Option Outcome} {s : State} {idx : List Nat} {t : Term} {x : Int32} (h : (Cond.eq t (Term.int x)).value args first o s idx = some true) : t.eval args first o idx s = some (.int x) := by
  simp only [Cond.value, Term.eval] at h
  cases ht : t.eval args first o idx s with
  | none => simp [ht] at h
  | some y => cases y <;> simp [ht] at h ⊢; exact h
def own_V (Z : State) (h : Heap) (bs wa : Addr) (u : Int32) (M : Int64) : Prop := Exa Z h bs "java/util/BitSet" ∧ Fld Z h bs "java/util/BitSet" "words" "[J" (.ref wa) ∧ Fld Z h bs "java/util/BitSet" "wordsInUse" "I" (.int u) ∧ OwnA Z h wa .long 1 (fun _ => .long M) ∧ Sta Z h "java/util/BitSet" "$assertionsDisabled" "Z" (.int (1 : Int32))
def own_T (Z : State) (h : Heap) (fp bs wa : Addr) (u : Int32) (M : Int64) : Prop := Exa Z h fp "com/example/score_on_crawl/scoreoncrawl/engine/FetchedPages" ∧ Fld Z h fp "com/example/score_on_crawl/scoreoncrawl/engine/FetchedPages" "fetched" "Ljava/util/BitSet;" (.ref bs) ∧ own_V Z h bs wa u M
def own_S (Z : State) (h : Heap) (sq fp bs wa : Addr) (pg cu u : Int32) (M : Int64) : Prop := Exa Z h sq "com/example/score_on_crawl/scoreoncrawl/engine/BreadthFirstSequence" ∧ Fld Z h sq "com/example/score_on_crawl/scoreoncrawl/engine/BreadthFirstSequence" "fetched" "Lcom/example/score_on_crawl/scoreoncrawl/engine/FetchedPages;" (.ref fp) ∧ Fld Z h sq "com/example/score_on_crawl/scoreoncrawl/engine/BreadthFirstSequence" "pages" "I" (.int pg) ∧ Fld Z h sq "com/example/score_on_crawl/scoreoncrawl/engine/BreadthFirstSequence" "cursor" "I" (.int cu) ∧ own_T Z h fp bs wa u M
def own_N (n0 : Nat) (sq fp bs wa : Addr) : Prop := n0 ≤ sq ∧ n0 ≤ bs ∧ n0 ≤ wa ∧ sq ≠ fp ∧ sq ≠ bs ∧ sq ≠ wa ∧ fp ≠ bs ∧ fp ≠ wa ∧ bs ≠ wa
theorem own_one {Z : State} {h : Heap} {a : Addr} {f : Nat → Value} {M : Int64} (A : OwnA Z h a .long 1 f) (q : f 0 = .long M) : OwnA Z h a .long 1 (fun _ => .long M) := A.congr fun k hk => (congrArg f (Nat.lt_one_iff.mp hk)).trans q
theorem d6_0 : decode jdk_92_method_1_code 0 = .ok (.iload_n 0, 1) := by decide +kernel
theorem d6_1 : decode jdk_92_method_1_code 1 = .ok (.bipush 6, 2) := by decide +kernel
theorem d6_3 : decode jdk_92_method_1_code 3 = .ok (.ishr, 1) := by decide +kernel
theorem d6_4 : decode jdk_92_method_1_code 4 = .ok (.ireturn, 1) := by decide +kernel
theorem pn_0 : plainName "java/util/BitSet" = true := by first | (simp [plainName, overriddenIn]; done) | decide +kernel
theorem ef_6 (m : MethodId) (x0 : Int32) : entryFrame m #[(.int x0)] 1 = mkF m 0 #[.val (.int x0)] [] := by first | (simp [entryFrame, mkF, argsToLocals, Value.category]; done) | rfl
def Q6 (Z : State) (i r : Int32) (h0 : Heap) (n0 : Nat) (v : Option Value) (h : Heap) (L : List Loc) : Prop := v = some (.int r) ∧ Fr n0 L ∧ h = h0
set_option maxRecDepth 65536 in
set_option maxHeartbeats 40000000 in
theorem rm6 (l : Launch) (Z : State) (a0 : Array Value) (hw : ∀ d ∈ tables_1, d.before a0 Z = true) (ws : List Jvm.Cond) (i r : Int32) (h0 : Heap) (n0 : Nat) (Z0 : n0 ≤ h0.size) (hr : (i >>> ((6 : Int32) &&& 31)) = r) :
    MetFree l (⟨"java/util/BitSet", "wordIndex", "(I)I"⟩ : MethodName) (head1 (Jvm.Cond.code (⟨"java/util/BitSet", "wordIndex", "(I)I"⟩ : MethodName) jdk_92_method_1_code 1 (some .int) :: ws) ({ frames := 0, cells := 0, slots := 0, locals := 0 } : Room)) (fun aa_ U => aa_ = #[(.int i)] ∧ Z.Warmed39 U.vm ∧ U.heap = h0) (fun _ _ _ _ _ => True) (fun _ U o U' => ∃ v L, o = .returned v ∧ Q6 Z i r h0 n0 v U'.heap L ∧ FrameEnd U o U' L ({ frames := 0, cells := 0, slots := 0, locals := 0 } : Room).cells ({ frames := 0, cells := 0, slots := 0, locals := 0 } : Room).slots) := by
  refine own_met (Q := fun v h L => Q6 Z i r h0 n0 v h L) (plainFor_of_name pn_0) ?_
  intro p e s m below meth c s₁ hx hby hml hret hlk hown hnm hZ X0 e0
  have N0 := Fr.nil n0
  rw [ef_6 m i]
  show OwnG p e below s _ _ _ (s₁.setTop (mkF m 0 #[.val (.int i)] []))
  refine own_by (fun t kk_ => XS.iloadN X0.here hx rfl (hb hby d6_0) rfl  kk_) ?_
  show OwnG p e below s _ _ _ (s₁.setTop (mkF m 1 #[.val (.int i)] [(.int i)]))
  refine own_by (fun t kk_ => XS.bipush X0.here hx rfl (hb hby d6_1) kk_) ?_
  show OwnG p e below s _ _ _ (s₁.setTop (mkF m 3 #[.val (.int i)] [(.int (6 : Int32)), (.int i)]))
  refine own_by (fun t kk_ => XS.ishr X0.here hx rfl (hb hby d6_3) rfl kk_) ?_
  show OwnG p e below s _ _ _ (s₁.setTop (mkF m 4 #[.val (.int i)] [(.int (i >>> ((6 : Int32) &&& 31)))]))
  exact own_outI X0 hx hret hlk (hb hby d6_4) (⟨by rw [hr], N0, e0⟩) (by decide) (by decide)
theorem d16_0 : decode jdk_92_method_2_code 0 = .ok (.getstatic 3, 3) := by decide +kernel
theorem d16_3 : decode jdk_92_method_2_code 3 = .ok (.ifCond .ne 34, 3) := by decide +kernel
theorem d16_6 : decode jdk_92_method_2_code 6 = .ok (.aload_n 0, 1) := by decide +kernel
theorem d16_7 : decode jdk_92_method_2_code 7 = .ok (.getfield 7, 3) := by decide +kernel
theorem d16_10 : decode jdk_92_method_2_code 10 = .ok (.ifCond .eq 27, 3) := by decide +kernel
theorem d16_13 : decode jdk_92_method_2_code 13 = .ok (.aload_n 0, 1) := by decide +kernel
theorem d16_14 : decode jdk_92_method_2_code 14 = .ok (.getfield 11, 3) := by decide +kernel
theorem d16_17 : decode jdk_92_method_2_code 17 = .ok (.aload_n 0, 1) := by decide +kernel
theorem d16_18 : decode jdk_92_method_2_code 18 = .ok (.getfield 7, 3) := by decide +kernel
theorem d16_21 : decode jdk_92_method_2_code 21 = .ok (.iconst 1, 1) := by decide +kernel
theorem d16_22 : decode jdk_92_method_2_code 22 = .ok (.isub, 1) := by decide +kernel
theorem d16_23 : decode jdk_92_method_2_code 23 = .ok (.laload, 1) := by decide +kernel
theorem d16_24 : decode jdk_92_method_2_code 24 = .ok (.lconst 0, 1) := by decide +kernel
theorem d16_25 : decode jdk_92_method_2_code 25 = .ok (.lcmp, 1) := by decide +kernel
theorem d16_26 : decode jdk_92_method_2_code 26 = .ok (.ifCond .ne 11, 3) := by decide +kernel
theorem d16_29 : decode jdk_92_method_2_code 29 = .ok (.new 15, 3) := by decide +kernel
theorem d16_32 : decode jdk_92_method_2_code 32 = .ok (.dup, 1) := by decide +kernel
theorem d16_33 : decode jdk_92_method_2_code 33 = .ok (.invokespecial 17, 3) := by decide +kernel
theorem d16_36 : decode jdk_92_method_2_code 36 = .ok (.athrow, 1) := by decide +kernel
theorem d16_37 : decode jdk_92_method_2_code 37 = .ok (.getstatic 3, 3) := by decide +kernel
theorem d16_40 : decode jdk_92_method_2_code 40 = .ok (.ifCond .ne 30, 3) := by decide +kernel
theorem d16_43 : decode jdk_92_method_2_code 43 = .ok (.aload_n 0, 1) := by decide +kernel
theorem d16_44 : decode jdk_92_method_2_code 44 = .ok (.getfield 7, 3) := by decide +kernel
theorem d16_47 : decode jdk_92_method_2_code 47 = .ok (.ifCond .lt 15, 3) := by decide +kernel
theorem d16_50 : decode jdk_92_method_2_code 50 = .ok (.aload_n 0, 1) := by decide +kernel
theorem d16_51 : decode jdk_92_method_2_code 51 = .ok (.getfield 7, 3) := by decide +kernel
theorem d16_54 : decode jdk_92_method_2_code 54 = .ok (.aload_n 0, 1) := by decide +kernel
theorem d16_55 : decode jdk_92_method_2_code 55 = .ok (.getfield 11, 3) := by decide +kernel
theorem d16_58 : decode jdk_92_method_2_code 58 = .ok (.arraylength, 1) := by decide +kernel
theorem d16_59 : decode jdk_92_method_2_code 59 = .ok (.if_icmp .le 11, 3) := by decide +kernel
theorem d16_62 : decode jdk_92_method_2_code 62 = .ok (.new 15, 3) := by decide +kernel
theorem d16_65 : decode jdk_92_method_2_code 65 = .ok (.dup, 1) := by decide +kernel
theorem d16_66 : decode jdk_92_method_2_code 66 = .ok (.invokespecial 17, 3) := by decide +kernel
theorem d16_69 : decode jdk_92_method_2_code 69 = .ok (.athrow, 1) := by decide +kernel
theorem d16_70 : decode jdk_92_method_2_code 70 = .ok (.getstatic 3, 3) := by decide +kernel
theorem d16_73 : decode jdk_92_method_2_code 73 = .ok (.ifCond .ne 37, 3) := by decide +kernel
theorem d16_76 : decode jdk_92_method_2_code 76 = .ok (.aload_n 0, 1) := by decide +kernel
theorem d16_77 : decode jdk_92_method_2_code 77 = .ok (.getfield 7, 3) := by decide +kernel
theorem d16_80 : decode jdk_92_method_2_code 80 = .ok (.aload_n 0, 1) := by decide +kernel
theorem d16_81 : decode jdk_92_method_2_code 81 = .ok (.getfield 11, 3) := by decide +kernel
theorem d16_84 : decode jdk_92_method_2_code 84 = .ok (.arraylength, 1) := by decide +kernel
theorem d16_85 : decode jdk_92_method_2_code 85 = .ok (.if_icmp .eq 25, 3) := by decide +kernel
theorem d16_88 : decode jdk_92_method_2_code 88 = .ok (.aload_n 0, 1) := by decide +kernel
theorem d16_89 : decode jdk_92_method_2_code 89 = .ok (.getfield 11, 3) := by decide +kernel
theorem d16_92 : decode jdk_92_method_2_code 92 = .ok (.aload_n 0, 1) := by decide +kernel
theorem d16_93 : decode jdk_92_method_2_code 93 = .ok (.getfield 7, 3) := by decide +kernel
theorem d16_96 : decode jdk_92_method_2_code 96 = .ok (.laload, 1) := by decide +kernel
theorem d16_97 : decode jdk_92_method_2_code 97 = .ok (.lconst 0, 1) := by decide +kernel
theorem d16_98 : decode jdk_92_method_2_code 98 = .ok (.lcmp, 1) := by decide +kernel
theorem d16_99 : decode jdk_92_method_2_code 99 = .ok (.ifCond .eq 11, 3) := by decide +kernel
theorem d16_102 : decode jdk_92_method_2_code 102 = .ok (.new 15, 3) := by decide +kernel
theorem d16_105 : decode jdk_92_method_2_code 105 = .ok (.dup, 1) := by decide +kernel
theorem d16_106 : decode jdk_92_method_2_code 106 = .ok (.invokespecial 17, 3) := by decide +kernel
theorem d16_109 : decode jdk_92_method_2_code 109 = .ok (.athrow, 1) := by decide +kernel
theorem d16_110 : decode jdk_92_method_2_code 110 = .ok (.return_, 1) := by decide +kernel
theorem ef_16 (m : MethodId) (x0 : Addr) : entryFrame m #[(.ref x0)] 1 = mkF m 0 #[.val (.ref x0)] [] := by first | (simp [entryFrame, mkF, argsToLocals, Value.category]; done) | rfl
def Q16 (Z : State) (bs : Addr) (h0 : Heap) (n0 : Nat) (v : Option Value) (h : Heap) (L : List Loc) : Prop := v = none ∧ Fr n0 L ∧ h = h0
set_option maxRecDepth 65536 in
set_option maxHeartbeats 40000000 in
theorem rm16 (l : Launch) (Z : State) (a0 : Array Value) (hw : ∀ d ∈ tables_1, d.before a0 Z = true) (ws : List Jvm.Cond) (bs : Addr) (h0 : Heap) (n0 : Nat) (Z0 : n0 ≤ h0.size) (SA : Sta Z h0 "java/util/BitSet" "$assertionsDisabled" "Z" (.int (1 : Int32))) :
    MetFree l (⟨"java/util/BitSet", "checkInvariants", "()V"⟩ : MethodName) (head1 (Jvm.Cond.code (⟨"java/util/BitSet", "checkInvariants", "()V"⟩ : MethodName) jdk_92_method_2_code 1 none :: ws) ({ frames := 0, cells := 0, slots := 0, locals := 0 } : Room)) (fun aa_ U => aa_ = #[(.ref bs)] ∧ Z.Warmed39 U.vm ∧ U.heap = h0) (fun _ _ _ _ _ => True) (fun _ U o U' => ∃ v L, o = .returned v ∧ Q16 Z bs h0 n0 v U'.heap L ∧ FrameEnd U o U' L ({ frames := 0, cells := 0, slots := 0, locals := 0 } : Room).cells ({ frames := 0, cells := 0, slots := 0, locals := 0 } : Room).slots) := by
  refine own_met (Q := fun v h L => Q16 Z bs h0 n0 v h L) (plainFor_of_name pn_0) ?_
  intro p e s m below meth c s₁ hx hby hml hret hlk hown hnm hZ X0 e0
  have N0 := Fr.nil n0
  rw [ef_16 m bs]
  show OwnG p e below s _ _ _ (s₁.setTop (mkF m 0 #[.val (.ref bs)] []))
  obtain ⟨T1, X1, e1, st1⟩ := getS2 X0 hx hZ hown (host := "") (Or.inl (hw _ (List.mem_of_getElem? (i := 95) rfl))) Via.refl e0 SA (g := (mkF m 0 #[.val (.ref bs)] [])) rfl (hb hby d16_0)
  refine own_by (fun t kk_ => st1 _ kk_) ?_
  show OwnG p e below s _ _ _ (T1.setTop (mkF m 3 #[.val (.ref bs)] [(.int (1 : Int32))]))
  refine own_by (fun t kk_ => XS.ifYes X1.here hx rfl (pc0 := 3) (pc' := 37) rfl (hb hby d16_3) rfl ((if0 _ _).trans (feq (by decide)).2) (by decide) (by decide) kk_) ?_
  show OwnG p e below s _ _ _ (T1.setTop (mkF m 37 #[.val (.ref bs)] []))
  obtain ⟨T2, X2, e2, st2⟩ := getS2 X1 hx hZ hown (host := "") (Or.inl (hw _ (List.mem_of_getElem? (i := 95) rfl))) Via.refl e1 SA (g := (mkF m 37 #[.val (.ref bs)] [])) rfl (hb hby d16_37)
  refine own_by (fun t kk_ => st2 _ kk_) ?_
  show OwnG p e below s _ _ _ (T2.setTop (mkF m 40 #[.val (.ref bs)] [(.int (1 : Int32))]))
  refine own_by (fun t kk_ => XS.ifYes X2.here hx rfl (pc0 := 40) (pc' := 70) rfl (hb hby d16_40) rfl ((if0 _ _).trans (feq (by decide)).2) (by decide) (by decide) kk_) ?_
  show OwnG p e below s _ _ _ (T2.setTop (mkF m 70 #[.val (.ref bs)] []))
  obtain ⟨T3, X3, e3, st3⟩ := getS2 X2 hx hZ hown (host := "") (Or.inl (hw _ (List.mem_of_getElem? (i := 95) rfl))) Via.refl e2 SA (g := (mkF m 70 #[.val (.ref bs)] [])) rfl (hb hby d16_70)
  refine own_by (fun t kk_ => st3 _ kk_) ?_
  show OwnG p e below s _ _ _ (T3.setTop (mkF m 73 #[.val (.ref bs)] [(.int (1 : Int32))]))
  refine own_by (fun t kk_ => XS.ifYes X3.here hx rfl (pc0 := 73) (pc' := 110) rfl (hb hby d16_73) rfl ((if0 _ _).trans (feq (by decide)).2) (by decide) (by decide) kk_) ?_
  show OwnG p e below s _ _ _ (T3.setTop (mkF m 110 #[.val (.ref bs)] []))
  exact own_outV X3 hx hret hlk (hb hby d16_110) (⟨rfl, N0, e3⟩) (by decide) (by decide)
theorem d15_0 : decode jdk_92_method_14_code 0 = .ok (.aload_n 0, 1) := by decide +kernel
theorem d15_1 : decode jdk_92_method_14_code 1 = .ok (.getfield 11, 3) := by decide +kernel
theorem d15_4 : decode jdk_92_method_14_code 4 = .ok (.arraylength, 1) := by decide +kernel
theorem d15_5 : decode jdk_92_method_14_code 5 = .ok (.iload_n 1, 1) := by decide +kernel
theorem d15_6 : decode jdk_92_method_14_code 6 = .ok (.if_icmp .ge 32, 3) := by decide +kernel
theorem d15_9 : decode jdk_92_method_14_code 9 = .ok (.iconst 2, 1) := by decide +kernel
theorem d15_10 : decode jdk_92_method_14_code 10 = .ok (.aload_n 0, 1) := by decide +kernel
theorem d15_11 : decode jdk_92_method_14_code 11 = .ok (.getfield 11, 3) := by decide +kernel
theorem d15_14 : decode jdk_92_method_14_code 14 = .ok (.arraylength, 1) := by decide +kernel
theorem d15_15 : decode jdk_92_method_14_code 15 = .ok (.imul, 1) := by decide +kernel
theorem d15_16 : decode jdk_92_method_14_code 16 = .ok (.iload_n 1, 1) := by decide +kernel
theorem d15_17 : decode jdk_92_method_14_code 17 = .ok (.invokestatic 133, 3) := by decide +kernel
theorem d15_20 : decode jdk_92_method_14_code 20 = .ok (.istore_n 2, 1) := by decide +kernel
theorem d15_21 : decode jdk_92_method_14_code 21 = .ok (.aload_n 0, 1) := by decide +kernel
theorem d15_22 : decode jdk_92_method_14_code 22 = .ok (.aload_n 0, 1) := by decide +kernel
theorem d15_23 : decode jdk_92_method_14_code 23 = .ok (.getfield 11, 3) := by decide +kernel
theorem d15_26 : decode jdk_92_method_14_code 26 = .ok (.iload_n 2, 1) := by decide +kernel
theorem d15_27 : decode jdk_92_method_14_code 27 = .ok (.invokestatic 59, 3) := by decide +kernel
theorem d15_30 : decode jdk_92_method_14_code 30 = .ok (.putfield 11, 3) := by decide +kernel
theorem d15_33 : decode jdk_92_method_14_code 33 = .ok (.aload_n 0, 1) := by decide +kernel
theorem d15_34 : decode jdk_92_method_14_code 34 = .ok (.iconst 0, 1) := by decide +kernel
theorem d15_35 : decode jdk_92_method_14_code 35 = .ok (.putfield 24, 3) := by decide +kernel
theorem d15_38 : decode jdk_92_method_14_code 38 = .ok (.return_, 1) := by decide +kernel
theorem ef_15 (m : MethodId) (x0 : Addr) (x1 : Int32) : entryFrame m #[(.ref x0), (.int x1)] 3 = mkF m 0 #[.val (.ref x0), .val (.int x1), .unset] [] := by first | (simp [entryFrame, mkF, argsToLocals, Value.category]; done) | rfl
def Q15 (Z : State) (bs wa : Addr) (u : Int32) (M : Int64) (h0 : Heap) (n0 : Nat) (v : Option Value) (h : Heap) (L : List Loc) : Prop := v = none ∧ Fr n0 L ∧ h = h0
set_option maxRecDepth 65536 in
set_option maxHeartbeats 40000000 in
theorem rm15 (l : Launch) (Z : State) (a0 : Array Value) (hw : ∀ d ∈ tables_1, d.before a0 Z = true) (ws : List Jvm.Cond) (bs wa : Addr) (u : Int32) (M : Int64) (h0 : Heap) (n0 : Nat) (Z0 : n0 ≤ h0.size) (Vb : own_V Z h0 bs wa u M) :
    MetFree l (⟨"java/util/BitSet", "ensureCapacity", "(I)V"⟩ : MethodName) (head1 (Jvm.Cond.code (⟨"java/util/BitSet", "ensureCapacity", "(I)V"⟩ : MethodName) jdk_92_method_14_code 3 none :: ws) ({ frames := 0, cells := 0, slots := 0, locals := 0 } : Room)) (fun aa_ U => aa_ = #[(.ref bs), (.int (1 : Int32))] ∧ Z.Warmed39 U.vm ∧ U.heap = h0) (fun _ _ _ _ _ => True) (fun _ U o U' => ∃ v L, o = .returned v ∧ Q15 Z bs wa u M h0 n0 v U'.heap L ∧ FrameEnd U o U' L ({ frames := 0, cells := 0, slots := 0, locals := 0 } : Room).cells ({ frames := 0, cells := 0, slots := 0, locals := 0 } : Room).slots) := by
  refine own_met (Q := fun v h L => Q15 Z bs wa u M h0 n0 v h L) (plainFor_of_name pn_0) ?_
  intro p e s m below meth c s₁ hx hby hml hret hlk hown hnm hZ X0 e0
  have N0 := Fr.nil n0
  rw [ef_15 m bs (1 : Int32)]
  show OwnG p e below s _ _ _ (s₁.setTop (mkF m 0 #[.val (.ref bs), .val (.int (1 : Int32)), .unset] []))
  refine own_by (fun t kk_ => XS.aloadN X0.here hx rfl (hb hby d15_0) rfl rfl kk_) ?_
  show OwnG p e below s _ _ _ (s₁.setTop (mkF m 1 #[.val (.ref bs), .val (.int (1 : Int32)), .unset] [(.ref bs)]))
  obtain ⟨T1, X1, e1, st1⟩ := getF X0 hx hZ hown (host := "") (Or.inl (hw _ (List.mem_of_getElem? (i := 38) rfl))) Via.refl e0 Vb.2.1 (g := (mkF m 1 #[.val (.ref bs), .val (.int (1 : Int32)), .unset] [(.ref bs)])) rfl rfl (hb hby d15_1)
  refine own_by (fun t kk_ => st1 _ kk_) ?_
  show OwnG p e below s _ _ _ (T1.setTop (mkF m 4 #[.val (.ref bs), .val (.int (1 : Int32)), .unset] [(.ref wa)]))
  refine own_by (fun t kk_ => own_len X1 hx hZ e1 Vb.2.2.2.1 (z := (1 : Int32)) rfl (g := (mkF m 4 #[.val (.ref bs), .val (.int (1 : Int32)), .unset] [(.ref wa)])) rfl rfl (hb hby d15_4) _ kk_) ?_
  show OwnG p e below s _ _ _ (T1.setTop (mkF m 5 #[.val (.ref bs), .val (.int (1 : Int32)), .unset] [(.int (1 : Int32))]))
  refine own_by (fun t kk_ => XS.iloadN X1.here hx rfl (hb hby d15_5) rfl  kk_) ?_
  show OwnG p e below s _ _ _ (T1.setTop (mkF m 6 #[.val (.ref bs), .val (.int (1 : Int32)), .unset] [(.int (1 : Int32)), (.int (1 : Int32))]))
  refine own_by (fun t kk_ => XS.icmpYes X1.here hx rfl (pc0 := 6) (pc' := 38) rfl (hb hby d15_6) rfl (flt (by decide)).2.1 (by decide) (by decide) kk_) ?_
  show OwnG p e below s _ _ _ (T1.setTop (mkF m 38 #[.val (.ref bs), .val (.int (1 : Int32)), .unset] []))
  exact own_outV X1 hx hret hlk (hb hby d15_38) (⟨rfl, N0, e1⟩) (by decide) (by decide)
theorem d14_0 : decode jdk_92_method_15_code 0 = .ok (.iload_n 1, 1) := by decide +kernel
theorem d14_1 : decode jdk_92_method_15_code 1 = .ok (.iconst 1, 1) := by decide +kernel
theorem d14_2 : decode jdk_92_method_15_code 2 = .ok (.iadd, 1) := by decide +kernel
theorem d14_3 : decode jdk_92_method_15_code 3 = .ok (.istore_n 2, 1) := by decide +kernel
theorem d14_4 : decode jdk_92_method_15_code 4 = .ok (.aload_n 0, 1) := by decide +kernel
theorem d14_5 : decode jdk_92_method_15_code 5 = .ok (.getfield 7, 3) := by decide +kernel
theorem d14_8 : decode jdk_92_method_15_code 8 = .ok (.iload_n 2, 1) := by decide +kernel
theorem d14_9 : decode jdk_92_method_15_code 9 = .ok (.if_icmp .ge 13, 3) := by decide +kernel
theorem d14_12 : decode jdk_92_method_15_code 12 = .ok (.aload_n 0, 1) := by decide +kernel
theorem d14_13 : decode jdk_92_method_15_code 13 = .ok (.iload_n 2, 1) := by decide +kernel
theorem d14_14 : decode jdk_92_method_15_code 14 = .ok (.invokevirtual 139, 3) := by decide +kernel
theorem d14_17 : decode jdk_92_method_15_code 17 = .ok (.aload_n 0, 1) := by decide +kernel
theorem d14_18 : decode jdk_92_method_15_code 18 = .ok (.iload_n 2, 1) := by decide +kernel
theorem d14_19 : decode jdk_92_method_15_code 19 = .ok (.putfield 7, 3) := by decide +kernel
theorem d14_22 : decode jdk_92_method_15_code 22 = .ok (.return_, 1) := by decide +kernel
theorem pd_0 : parseMethodDescriptor "(I)V" = some ⟨[.int], none⟩ := by decide +kernel
theorem ef_14 (m : MethodId) (x0 : Addr) (x1 : Int32) : entryFrame m #[(.ref x0), (.int x1)] 3 = mkF m 0 #[.val (.ref x0), .val (.int x1), .unset] [] := by first | (simp [entryFrame, mkF, argsToLocals, Value.category]; done) | rfl
def Q14 (Z : State) (bs wa : Addr) (u : Int32) (M : Int64) (h0 : Heap) (n0 : Nat) (v : Option Value) (h : Heap) (L : List Loc) : Prop := v = none ∧ Fr n0 L ∧ Keep h0 h [bs, wa] ∧ own_V Z h bs wa 1 M
set_option maxRecDepth 65536 in
set_option maxHeartbeats 40000000 in
theorem rm14 (l : Launch) (Z : State) (a0 : Array Value) (hw : ∀ d ∈ tables_1, d.before a0 Z = true) (ws : List Jvm.Cond) (bs wa : Addr) (u : Int32) (M : Int64) (h0 : Heap) (n0 : Nat) (Z0 : n0 ≤ h0.size) (Vb : own_V Z h0 bs wa u M) (hu : u = 0 ∨ u = 1) (g1 : n0 ≤ bs) (nbw : bs ≠ wa) :
    MetFree l (⟨"java/util/BitSet", "expandTo", "(I)V"⟩ : MethodName) (head1 (Jvm.Cond.code (⟨"java/util/BitSet", "expandTo", "(I)V"⟩ : MethodName) jdk_92_method_15_code 3 none :: ws) ({ frames := 1, cells := 0, slots := 0, locals := 14 } : Room)) (fun aa_ U => aa_ = #[(.ref bs), (.int (0 : Int32))] ∧ Z.Warmed39 U.vm ∧ U.heap = h0) (fun _ _ _ _ _ => True) (fun _ U o U' => ∃ v L, o = .returned v ∧ Q14 Z bs wa u M h0 n0 v U'.heap L ∧ FrameEnd U o U' L ({ frames := 1, cells := 0, slots := 0, locals := 14 } : Room).cells ({ frames := 1, cells := 0, slots := 0, locals := 14 } : Room).slots) := by
  refine own_met (Q := fun v h L => Q14 Z bs wa u M h0 n0 v h L) (plainFor_of_name pn_0) ?_
  intro p e s m below meth c s₁ hx hby hml hret hlk hown hnm hZ X0 e0
  have N0 := Fr.nil n0
  rw [ef_14 m bs (0 : Int32)]
  show OwnG p e below s _ _ _ (s₁.setTop (mkF m 0 #[.val (.ref bs), .val (.int (0 : Int32)), .unset] []))
  refine own_by (fun t kk_ => XS.iloadN X0.here hx rfl (hb hby d14_0) rfl  kk_) ?_
  show OwnG p e below s _ _ _ (s₁.setTop (mkF m 1 #[.val (.ref bs), .val (.int (0 : Int32)), .unset] [(.int (0 : Int32))]))
  refine own_by (fun t kk_ => XS.iconst X0.here hx rfl (hb hby d14_1) kk_) ?_
  show OwnG p e below s _ _ _ (s₁.setTop (mkF m 2 #[.val (.ref bs), .val (.int (0 : Int32)), .unset] [(.int (1 : Int32)), (.int (0 : Int32))]))
  refine own_by (fun t kk_ => XS.iadd X0.here hx rfl (hb hby d14_2) rfl kk_) ?_
  show OwnG p e below s _ _ _ (s₁.setTop (mkF m 3 #[.val (.ref bs), .val (.int (0 : Int32)), .unset] [(.int (1 : Int32))]))
  refine own_by (fun t kk_ => XS.istoreN X0.here hx rfl (hb hby d14_3) rfl (l' := #[.val (.ref bs), .val (.int (0 : Int32)), .val (.int (1 : Int32))]) rfl kk_) ?_
  show OwnG p e below s _ _ _ (s₁.setTop (mkF m 4 #[.val (.ref bs), .val (.int (0 : Int32)), .val (.int (1 : Int32))] []))
  refine own_by (fun t kk_ => XS.aloadN X0.here hx rfl (hb hby d14_4) rfl rfl kk_) ?_
  show OwnG p e below s _ _ _ (s₁.setTop (mkF m 5 #[.val (.ref bs), .val (.int (0 : Int32)), .val (.int (1 : Int32))] [(.ref bs)]))
  obtain ⟨T1, X1, e1, st1⟩ := getF X0 hx hZ hown (host := "") (Or.inl (hw _ (List.mem_of_getElem? (i := 25) rfl))) Via.refl e0 Vb.2.2.1 (g := (mkF m 5 #[.val (.ref bs), .val (.int (0 : Int32)), .val (.int (1 : Int32))] [(.ref bs)])) rfl rfl (hb hby d14_5)
  refine own_by (fun t kk_ => st1 _ kk_) ?_
  show OwnG p e below s _ _ _ (T1.setTop (mkF m 8 #[.val (.ref bs), .val (.int (0 : Int32)), .val (.int (1 : Int32))] [(.int u)]))
  rcases hu with rfl | rfl
  · show OwnG p e below s _ _ _ (T1.setTop (mkF m 8 #[.val (.ref bs), .val (.int (0 : Int32)), .val (.int (1 : Int32))] [(.int (0 : Int32))]))
    refine own_by (fun t kk_ => XS.iloadN X1.here hx rfl (hb hby d14_8) rfl  kk_) ?_
    show OwnG p e below s _ _ _ (T1.setTop (mkF m 9 #[.val (.ref bs), .val (.int (0 : Int32)), .val (.int (1 : Int32))] [(.int (1 : Int32)), (.int (0 : Int32))]))
    refine own_by (fun t kk_ => XS.icmpNo X1.here hx rfl (hb hby d14_9) rfl (tlt (by decide)).2.1 kk_) ?_
    show OwnG p e below s _ _ _ (T1.setTop (mkF m 12 #[.val (.ref bs), .val (.int (0 : Int32)), .val (.int (1 : Int32))] []))
    refine own_by (fun t kk_ => XS.aloadN X1.here hx rfl (hb hby d14_12) rfl rfl kk_) ?_
    show OwnG p e below s _ _ _ (T1.setTop (mkF m 13 #[.val (.ref bs), .val (.int (0 : Int32)), .val (.int (1 : Int32))] [(.ref bs)]))
    refine own_by (fun t kk_ => XS.iloadN X1.here hx rfl (hb hby d14_13) rfl  kk_) ?_
    show OwnG p e below s _ _ _ (T1.setTop (mkF m 14 #[.val (.ref bs), .val (.int (0 : Int32)), .val (.int (1 : Int32))] [(.int (1 : Int32)), (.ref bs)]))
    obtain ⟨cq2, q2, q2'⟩ := Exa.cell Vb.1
    obtain ⟨_, _, ⟨T2, L2, k2, n2⟩, -, X2, ⟨Lc2, hQ2, l2, y2, z2⟩, st2⟩ := X1.privateBack hx (y := (⟨"java/util/BitSet", "ensureCapacity", "(I)V"⟩ : MethodName)) hown (mvT hZ (hw _ (List.mem_of_getElem? (i := 85) rfl))) (mvT hZ (hw _ (List.mem_of_getElem? (i := 86) rfl))) (own_selp hZ (y := (⟨"java/util/BitSet", "ensureCapacity", "(I)V"⟩ : MethodName)) (hw _ (List.mem_of_getElem? (i := 19) rfl)) (hw _ (List.mem_of_getElem? (i := 87) rfl)) (hw _ (List.mem_of_getElem? (i := 86) rfl)) (by decide)) (Cond.privateMethod_at (mvP hZ (hw _ (List.mem_of_getElem? (i := 87) rfl)) (args := #[]))) (mvT hZ (hw _ (List.mem_of_getElem? (i := 89) rfl))) (by decide) (backOf (W := 0) (rm15 l Z a0 hw [] bs wa (0 : Int32) M h0 n0 Z0 ⟨Vb.1, Vb.2.1, Vb.2.2.1, Vb.2.2.2.1, Vb.2.2.2.2⟩) hZ (hw _ (List.mem_of_getElem? (i := 89) rfl)) (hw _ (List.mem_of_getElem? (i := 20) rfl)) (by decide) (by decide)) (g := (mkF m 14 #[.val (.ref bs), .val (.int (0 : Int32)), .val (.int (1 : Int32))] [(.int (1 : Int32)), (.ref bs)])) rfl (by rw [hml]; rfl) (Steps.refl _) (a := bs) (by rw [e1]; exact q2) q2' (argsL := [(.int (1 : Int32))]) (rest := []) (lenOf pd_0 rfl) rfl (by show 2 * 0 + _ ≤ _; exact Nat.le_of_eq rfl) (hb hby d14_14) (fun _ _ => ⟨rfl, e1, (by decide : 0 + 0 ≤ _), (by decide : 0 + 0 ≤ _)⟩)
    dsimp only [Pt.U, Pt.locs, Pt.cells, Pt.slots] at X2 l2 y2 z2 st2 hQ2
    subst l2 y2 z2
    refine own_by (fun t kk_ => st2.trans kk_) ?_
    obtain ⟨rfl, N2q, hh2⟩ := hQ2
    have N2 := Fr.app N0 N2q
    have f3 := Vb.1
    rw [← hh2] at f3
    have f4 := Vb.2.1
    rw [← hh2] at f4
    have f5 := Vb.2.2.1
    rw [← hh2] at f5
    have f6 := Vb.2.2.2.1
    rw [← hh2] at f6
    have f7 := Vb.2.2.2.2
    rw [← hh2] at f7
    have f8 : Keep h0 T2.heap [bs, wa] := by rw [hh2]; exact (Keep.refl h0 [bs, wa])
    have sz2 : n0 ≤ T2.heap.size := by rw [hh2]; exact Z0
    show OwnG p e below s _ _ _ (T2.setTop (mkF m 17 #[.val (.ref bs), .val (.int (0 : Int32)), .val (.int (1 : Int32))] []))
    refine own_by (fun t kk_ => XS.aloadN X2.here hx rfl (hb hby d14_17) rfl rfl kk_) ?_
    show OwnG p e below s _ _ _ (T2.setTop (mkF m 18 #[.val (.ref bs), .val (.int (0 : Int32)), .val (.int (1 : Int32))] [(.ref bs)]))
    refine own_by (fun t kk_ => XS.iloadN X2.here hx rfl (hb hby d14_18) rfl  kk_) ?_
    show OwnG p e below s _ _ _ (T2.setTop (mkF m 19 #[.val (.ref bs), .val (.int (0 : Int32)), .val (.int (1 : Int32))] [(.int (1 : Int32)), (.ref bs)]))
    obtain ⟨T9, h9, X9, e9, W9, st9⟩ := putF X2 hx hZ hown (host := "") (Or.inl (hw _ (List.mem_of_getElem? (i := 25) rfl))) Via.refl (rfl : T2.heap = T2.heap) f5 f3 (Or.inl (hw _ (List.mem_of_getElem? (i := 26) rfl))) (hw _ (List.mem_of_getElem? (i := 19) rfl)) (ty := .int) (by decide) rfl rfl (g := (mkF m 19 #[.val (.ref bs), .val (.int (0 : Int32)), .val (.int (1 : Int32))] [(.int (1 : Int32)), (.ref bs)])) rfl rfl (hb hby d14_19)
    refine own_by (fun t kk_ => st9 _ kk_) ?_
    have f10 := Exa.wr W9 f3
    have f11 := Fld.other W9 f4 (Or.inr (slot_ne (Or.inl (hw _ (List.mem_of_getElem? (i := 39) rfl))) (Or.inl (hw _ (List.mem_of_getElem? (i := 26) rfl))) (by decide) (t := (.array .long)) (t' := .int) (by decide) (by decide)))
    have f13 := OwnA.other W9 f6 (Ne.symm nbw)
    have f14 := Sta.wr W9 f7
    have f15 := Keep.wr f8 W9 (Or.inl (by simp))
    have f16 := Fld.same W9 f5
    have N9 := Fr.snoc X9 N2 g1
    have sz9 : n0 ≤ h9.size := by rw [W9.size]; exact sz2
    show OwnG p e below s _ _ _ (T9.setTop (mkF m 22 #[.val (.ref bs), .val (.int (0 : Int32)), .val (.int (1 : Int32))] []))
    exact own_outV X9 hx hret hlk (hb hby d14_22) (by show _ ∧ _; rw [e9]; exact ⟨rfl, N9, f15, ⟨f10, f11, f16, f13, f14⟩⟩) (by decide) (by decide)
  · show OwnG p e below s _ _ _ (T1.setTop (mkF m 8 #[.val (.ref bs), .val (.int (0 : Int32)), .val (.int (1 : Int32))] [(.int (1 : Int32))]))
    refine own_by (fun t kk_ => XS.iloadN X1.here hx rfl (hb hby d14_8) rfl  kk_) ?_
    show OwnG p e below s _ _ _ (T1.setTop (mkF m 9 #[.val (.ref bs), .val (.int (0 : Int32)), .val (.int (1 : Int32))] [(.int (1 : Int32)), (.int (1 : Int32))]))
    refine own_by (fun t kk_ => XS.icmpYes X1.here hx rfl (pc0 := 9) (pc' := 22) rfl (hb hby d14_9) rfl (flt (by decide)).2.1 (by decide) (by decide) kk_) ?_
    show OwnG p e below s _ _ _ (T1.setTop (mkF m 22 #[.val (.ref bs), .val (.int (0 : Int32)), .val (.int (1 : Int32))] []))
    exact own_outV X1 hx hret hlk (hb hby d14_22) (by show _ ∧ _; rw [e1]; exact ⟨rfl, N0, (Keep.refl h0 [bs, wa]), ⟨Vb.1, Vb.2.1, Vb.2.2.1, Vb.2.2.2.1, Vb.2.2.2.2⟩⟩) (by decide) (by decide)
theorem d13_0 : decode jdk_92_method_19_code 0 = .ok (.iload_n 1, 1) := by decide +kernel
theorem d13_1 : decode jdk_92_method_19_code 1 = .ok (.ifCond .ge 30, 3) := by decide +kernel
theorem d13_4 : decode jdk_92_method_19_code 4 = .ok (.new 142, 3) := by decide +kernel
theorem d13_7 : decode jdk_92_method_19_code 7 = .ok (.dup, 1) := by decide +kernel
theorem d13_8 : decode jdk_92_method_19_code 8 = .ok (.new 33, 3) := by decide +kernel
theorem d13_11 : decode jdk_92_method_19_code 11 = .ok (.dup, 1) := by decide +kernel
theorem d13_12 : decode jdk_92_method_19_code 12 = .ok (.invokespecial 35, 3) := by decide +kernel
theorem d13_15 : decode jdk_92_method_19_code 15 = .ok (.ldc 153, 2) := by decide +kernel
theorem d13_17 : decode jdk_92_method_19_code 17 = .ok (.invokevirtual 38, 3) := by decide +kernel
theorem d13_20 : decode jdk_92_method_19_code 20 = .ok (.iload_n 1, 1) := by decide +kernel
theorem d13_21 : decode jdk_92_method_19_code 21 = .ok (.invokevirtual 42, 3) := by decide +kernel
theorem d13_24 : decode jdk_92_method_19_code 24 = .ok (.invokevirtual 45, 3) := by decide +kernel
theorem d13_27 : decode jdk_92_method_19_code 27 = .ok (.invokespecial 146, 3) := by decide +kernel
theorem d13_30 : decode jdk_92_method_19_code 30 = .ok (.athrow, 1) := by decide +kernel
theorem d13_31 : decode jdk_92_method_19_code 31 = .ok (.iload_n 1, 1) := by decide +kernel
theorem d13_32 : decode jdk_92_method_19_code 32 = .ok (.invokestatic 52, 3) := by decide +kernel
theorem d13_35 : decode jdk_92_method_19_code 35 = .ok (.istore_n 2, 1) := by decide +kernel
theorem d13_36 : decode jdk_92_method_19_code 36 = .ok (.aload_n 0, 1) := by decide +kernel
theorem d13_37 : decode jdk_92_method_19_code 37 = .ok (.iload_n 2, 1) := by decide +kernel
theorem d13_38 : decode jdk_92_method_19_code 38 = .ok (.invokevirtual 155, 3) := by decide +kernel
theorem d13_41 : decode jdk_92_method_19_code 41 = .ok (.aload_n 0, 1) := by decide +kernel
theorem d13_42 : decode jdk_92_method_19_code 42 = .ok (.getfield 11, 3) := by decide +kernel
theorem d13_45 : decode jdk_92_method_19_code 45 = .ok (.iload_n 2, 1) := by decide +kernel
theorem d13_46 : decode jdk_92_method_19_code 46 = .ok (.dup2, 1) := by decide +kernel
theorem d13_47 : decode jdk_92_method_19_code 47 = .ok (.laload, 1) := by decide +kernel
theorem d13_48 : decode jdk_92_method_19_code 48 = .ok (.lconst 1, 1) := by decide +kernel
theorem d13_49 : decode jdk_92_method_19_code 49 = .ok (.iload_n 1, 1) := by decide +kernel
theorem d13_50 : decode jdk_92_method_19_code 50 = .ok (.lshl, 1) := by decide +kernel
theorem d13_51 : decode jdk_92_method_19_code 51 = .ok (.lor, 1) := by decide +kernel
theorem d13_52 : decode jdk_92_method_19_code 52 = .ok (.lastore, 1) := by decide +kernel
theorem d13_53 : decode jdk_92_method_19_code 53 = .ok (.aload_n 0, 1) := by decide +kernel
theorem d13_54 : decode jdk_92_method_19_code 54 = .ok (.invokevirtual 56, 3) := by decide +kernel
theorem d13_57 : decode jdk_92_method_19_code 57 = .ok (.return_, 1) := by decide +kernel
theorem pd_1 : parseMethodDescriptor "(I)I" = some ⟨[.int], some .int⟩ := by decide +kernel
theorem pd_2 : parseMethodDescriptor "()V" = some ⟨[], none⟩ := by decide +kernel
theorem ef_13 (m : MethodId) (x0 : Addr) (x1 : Int32) : entryFrame m #[(.ref x0), (.int x1)] 3 = mkF m 0 #[.val (.ref x0), .val (.int x1), .unset] [] := by first | (simp [entryFrame, mkF, argsToLocals, Value.category]; done) | rfl
def Q13 (Z : State) (bs wa : Addr) (u d : Int32) (M : Int64) (h0 : Heap) (n0 : Nat) (v : Option Value) (h : Heap) (L : List Loc) : Prop := v = none ∧ Fr n0 L ∧ Keep h0 h [bs, wa] ∧ own_V Z h bs wa 1 (own_or M d)
set_option maxRecDepth 65536 in
set_option maxHeartbeats 40000000 in
theorem rm13 (l : Launch) (Z : State) (a0 : Array Value) (hw : ∀ d ∈ tables_1, d.before a0 Z = true) (ws : List Jvm.Cond) (bs wa : Addr) (u d : Int32) (M : Int64) (h0 : Heap) (n0 : Nat) (Z0 : n0 ≤ h0.size) (Vb : own_V Z h0 bs wa u M) (hu : u = 0 ∨ u = 1) (hd : ¬ d < 0 ∧ (d >>> ((6 : Int32) &&& 31)) = 0) (g1 : n0 ≤ bs) (g2 : n0 ≤ wa) (nbw : bs ≠ wa) :
    MetFree l (⟨"java/util/BitSet", "set", "(I)V"⟩ : MethodName) (head1 (Jvm.Cond.code (⟨"java/util/BitSet", "set", "(I)V"⟩ : MethodName) jdk_92_method_19_code 3 none :: ws) ({ frames := 2, cells := 0, slots := 0, locals := 28 } : Room)) (fun aa_ U => aa_ = #[(.ref bs), (.int d)] ∧ Z.Warmed39 U.vm ∧ U.heap = h0) (fun _ _ _ _ _ => True) (fun _ U o U' => ∃ v L, o = .returned v ∧ Q13 Z bs wa u d M h0 n0 v U'.heap L ∧ FrameEnd U o U' L ({ frames := 2, cells := 0, slots := 0, locals := 28 } : Room).cells ({ frames := 2, cells := 0, slots := 0, locals := 28 } : Room).slots) := by
  refine own_met (Q := fun v h L => Q13 Z bs wa u d M h0 n0 v h L) (plainFor_of_name pn_0) ?_
  intro p e s m below meth c s₁ hx hby hml hret hlk hown hnm hZ X0 e0
  have N0 := Fr.nil n0
  rw [ef_13 m bs d]
  show OwnG p e below s _ _ _ (s₁.setTop (mkF m 0 #[.val (.ref bs), .val (.int d), .unset] []))
  refine own_by (fun t kk_ => XS.iloadN X0.here hx rfl (hb hby d13_0) rfl  kk_) ?_
  show OwnG p e below s _ _ _ (s₁.setTop (mkF m 1 #[.val (.ref bs), .val (.int d), .unset] [(.int d)]))
  refine own_by (fun t kk_ => XS.ifYes X0.here hx rfl (pc0 := 1) (pc' := 31) rfl (hb hby d13_1) rfl ((if0 _ _).trans (flt hd.1).2.1) (by decide) (by decide) kk_) ?_
  show OwnG p e below s _ _ _ (s₁.setTop (mkF m 31 #[.val (.ref bs), .val (.int d), .unset] []))
  refine own_by (fun t kk_ => XS.iloadN X0.here hx rfl (hb hby d13_31) rfl  kk_) ?_
  show OwnG p e below s _ _ _ (s₁.setTop (mkF m 32 #[.val (.ref bs), .val (.int d), .unset] [(.int d)]))
  obtain ⟨_, _, ⟨T1, L1, k1, n1⟩, -, X1, ⟨Lc1, hQ1, l1, y1, z1⟩, st1⟩ := Jvm.LawKit.callS X0 hx (y := (⟨"java/util/BitSet", "wordIndex", "(I)I"⟩ : MethodName)) hown (mvT hZ (hw _ (List.mem_of_getElem? (i := 34) rfl))) (mvT hZ (hw _ (List.mem_of_getElem? (i := 35) rfl))) (mvT hZ (hw _ (List.mem_of_getElem? (i := 20) rfl))) (mvT hZ (hw _ (List.mem_of_getElem? (i := 36) rfl))) (by decide) (backOf (W := 0) (rm6 l Z a0 hw [] d (0 : Int32) h0 n0 Z0 hd.2) hZ (hw _ (List.mem_of_getElem? (i := 36) rfl)) (hw _ (List.mem_of_getElem? (i := 20) rfl)) (by decide) (by decide)) (g := (mkF m 32 #[.val (.ref bs), .val (.int d), .unset] [(.int d)])) rfl (by rw [hml]; rfl) (argsL := [(.int d)]) (rest := []) (lenOf pd_1 rfl) rfl (by show 2 * 0 + _ ≤ _; exact Nat.le_of_eq rfl) (hb hby d13_32) (fun _ _ => ⟨rfl, e0, (by decide : 0 + 0 ≤ _), (by decide : 0 + 0 ≤ _)⟩)
  dsimp only [Pt.U, Pt.locs, Pt.cells, Pt.slots] at X1 l1 y1 z1 st1 hQ1
  subst l1 y1 z1
  refine own_by (fun t kk_ => st1 _ kk_) ?_
  obtain ⟨rfl, N1q, hh1⟩ := hQ1
  have N1 := Fr.app N0 N1q
  have f2 := Vb.1
  rw [← hh1] at f2
  have f3 := Vb.2.1
  rw [← hh1] at f3
  have f4 := Vb.2.2.1
  rw [← hh1] at f4
  have f5 := Vb.2.2.2.1
  rw [← hh1] at f5
  have f6 := Vb.2.2.2.2
  rw [← hh1] at f6
  have f7 : Keep h0 T1.heap [bs, wa] := by rw [hh1]; exact (Keep.refl h0 [bs, wa])
  have sz1 : n0 ≤ T1.heap.size := by rw [hh1]; exact Z0
  show OwnG p e below s _ _ _ (T1.setTop (mkF m 35 #[.val (.ref bs), .val (.int d), .unset] [(.int (0 : Int32))]))
  refine own_by (fun t kk_ => XS.istoreN X1.here hx rfl (hb hby d13_35) rfl (l' := #[.val (.ref bs), .val (.int d), .val (.int (0 : Int32))]) rfl kk_) ?_
  show OwnG p e below s _ _ _ (T1.setTop (mkF m 36 #[.val (.ref bs), .val (.int d), .val (.int (0 : Int32))] []))
  refine own_by (fun t kk_ => XS.aloadN X1.here hx rfl (hb hby d13_36) rfl rfl kk_) ?_
  show OwnG p e below s _ _ _ (T1.setTop (mkF m 37 #[.val (.ref bs), .val (.int d), .val (.int (0 : Int32))] [(.ref bs)]))
  refine own_by (fun t kk_ => XS.iloadN X1.here hx rfl (hb hby d13_37) rfl  kk_) ?_
  show OwnG p e below s _ _ _ (T1.setTop (mkF m 38 #[.val (.ref bs), .val (.int d), .val (.int (0 : Int32))] [(.int (0 : Int32)), (.ref bs)]))
  obtain ⟨cq8, q8, q8'⟩ := Exa.cell f2
  obtain ⟨_, _, ⟨T8, L8, k8, n8⟩, -, X8, ⟨Lc8, hQ8, l8, y8, z8⟩, st8⟩ := X1.privateBack hx (y := (⟨"java/util/BitSet", "expandTo", "(I)V"⟩ : MethodName)) hown (mvT hZ (hw _ (List.mem_of_getElem? (i := 80) rfl))) (mvT hZ (hw _ (List.mem_of_getElem? (i := 81) rfl))) (own_selp hZ (y := (⟨"java/util/BitSet", "expandTo", "(I)V"⟩ : MethodName)) (hw _ (List.mem_of_getElem? (i := 19) rfl)) (hw _ (List.mem_of_getElem? (i := 82) rfl)) (hw _ (List.mem_of_getElem? (i := 81) rfl)) (by decide)) (Cond.privateMethod_at (mvP hZ (hw _ (List.mem_of_getElem? (i := 82) rfl)) (args := #[]))) (mvT hZ (hw _ (List.mem_of_getElem? (i := 84) rfl))) (by decide) (backOf (W := 0) (rm14 l Z a0 hw [] bs wa u M T1.heap n0 sz1 ⟨f2, f3, f4, f5, f6⟩ hu g1 nbw) hZ (hw _ (List.mem_of_getElem? (i := 84) rfl)) (hw _ (List.mem_of_getElem? (i := 20) rfl)) (by decide) (by decide)) (g := (mkF m 38 #[.val (.ref bs), .val (.int d), .val (.int (0 : Int32))] [(.int (0 : Int32)), (.ref bs)])) rfl (by rw [hml]; rfl) (Steps.refl _) (a := bs) (by rw [(rfl : T1.heap = T1.heap)]; exact q8) q8' (argsL := [(.int (0 : Int32))]) (rest := []) (lenOf pd_0 rfl) rfl (by show 2 * 0 + _ ≤ _; exact Nat.le_of_eq rfl) (hb hby d13_38) (fun _ _ => ⟨rfl, (rfl : T1.heap = T1.heap), (by decide : 0 + 0 ≤ _), (by decide : 0 + 0 ≤ _)⟩)
  dsimp only [Pt.U, Pt.locs, Pt.cells, Pt.slots] at X8 l8 y8 z8 st8 hQ8
  subst l8 y8 z8
  refine own_by (fun t kk_ => st8.trans kk_) ?_
  obtain ⟨rfl, N8q, K8, V8⟩ := hQ8
  have N8 := Fr.app N1 N8q
  have sz8 : n0 ≤ T8.heap.size := Nat.le_trans sz1 K8.1
  have f9 := Exa.keep f2 K8
  have f11 := Keep.trans f7 K8 (allS (Or.inl (by simp)) (allS (Or.inl (by simp)) all0))
  show OwnG p e below s _ _ _ (T8.setTop (mkF m 41 #[.val (.ref bs), .val (.int d), .val (.int (0 : Int32))] []))
  refine own_by (fun t kk_ => XS.aloadN X8.here hx rfl (hb hby d13_41) rfl rfl kk_) ?_
  show OwnG p e below s _ _ _ (T8.setTop (mkF m 42 #[.val (.ref bs), .val (.int d), .val (.int (0 : Int32))] [(.ref bs)]))
  obtain ⟨T12, X12, e12, st12⟩ := getF X8 hx hZ hown (host := "") (Or.inl (hw _ (List.mem_of_getElem? (i := 38) rfl))) Via.refl (rfl : T8.heap = T8.heap) V8.2.1 (g := (mkF m 42 #[.val (.ref bs), .val (.int d), .val (.int (0 : Int32))] [(.ref bs)])) rfl rfl (hb hby d13_42)
  refine own_by (fun t kk_ => st12 _ kk_) ?_
  show OwnG p e below s _ _ _ (T12.setTop (mkF m 45 #[.val (.ref bs), .val (.int d), .val (.int (0 : Int32))] [(.ref wa)]))
  refine own_by (fun t kk_ => XS.iloadN X12.here hx rfl (hb hby d13_45) rfl  kk_) ?_
  show OwnG p e below s _ _ _ (T12.setTop (mkF m 46 #[.val (.ref bs), .val (.int d), .val (.int (0 : Int32))] [(.int (0 : Int32)), (.ref wa)]))
  refine own_by (fun t kk_ => own_dup2I X12.here hx rfl (hb hby d13_46) rfl kk_) ?_
  show OwnG p e below s _ _ _ (T12.setTop (mkF m 47 #[.val (.ref bs), .val (.int d), .val (.int (0 : Int32))] [(.int (0 : Int32)), (.ref wa), (.int (0 : Int32)), (.ref wa)]))
  refine own_by (fun t kk_ => own_ldJ X12 hx hZ e12 V8.2.2.2.1 (j := (0 : Int32)) (i := 0) ⟨by decide, rfl, by decide⟩ (v := (.long M)) rfl (g := (mkF m 47 #[.val (.ref bs), .val (.int d), .val (.int (0 : Int32))] [(.int (0 : Int32)), (.ref wa), (.int (0 : Int32)), (.ref wa)])) rfl rfl (hb hby d13_47) _ kk_) ?_
  show OwnG p e below s _ _ _ (T12.setTop (mkF m 48 #[.val (.ref bs), .val (.int d), .val (.int (0 : Int32))] [(.long M), (.int (0 : Int32)), (.ref wa)]))
  refine own_by (fun t kk_ => XS.lconst X12.here hx rfl (hb hby d13_48) kk_) ?_
  show OwnG p e below s _ _ _ (T12.setTop (mkF m 49 #[.val (.ref bs), .val (.int d), .val (.int (0 : Int32))] [(.long (1 : Int64)), (.long M), (.int (0 : Int32)), (.ref wa)]))
  refine own_by (fun t kk_ => XS.iloadN X12.here hx rfl (hb hby d13_49) rfl  kk_) ?_
  show OwnG p e below s _ _ _ (T12.setTop (mkF m 50 #[.val (.ref bs), .val (.int d), .val (.int (0 : Int32))] [(.int d), (.long (1 : Int64)), (.long M), (.int (0 : Int32)), (.ref wa)]))
  refine own_by (fun t kk_ => XS.lshl X12.here hx rfl (hb hby d13_50) rfl kk_) ?_
  show OwnG p e below s _ _ _ (T12.setTop (mkF m 51 #[.val (.ref bs), .val (.int d), .val (.int (0 : Int32))] [(.long ((1 : Int64) <<< (d &&& 0x3f).toInt64)), (.long M), (.int (0 : Int32)), (.ref wa)]))
  refine own_by (fun t kk_ => XS.lor X12.here hx rfl (hb hby d13_51) rfl kk_) ?_
  show OwnG p e below s _ _ _ (T12.setTop (mkF m 52 #[.val (.ref bs), .val (.int d), .val (.int (0 : Int32))] [(.long (M ||| ((1 : Int64) <<< (d &&& 0x3f).toInt64))), (.int (0 : Int32)), (.ref wa)]))
  obtain ⟨T13, h13, X13, e13, W13, A13, st13⟩ := own_stJ X12 hx hZ e12 V8.2.2.2.1 (j := (0 : Int32)) (i := 0) ⟨by decide, rfl, by decide⟩ (g := (mkF m 52 #[.val (.ref bs), .val (.int d), .val (.int (0 : Int32))] [(.long (M ||| ((1 : Int64) <<< (d &&& 0x3f).toInt64))), (.int (0 : Int32)), (.ref wa)])) rfl rfl (hb hby d13_52)
  refine own_by (fun t kk_ => st13 _ kk_) ?_
  have f14 := Exa.wr W13 V8.1
  have f15 := Keep.wr f11 W13 (Or.inl (by simp))
  have f16 := Fld.other W13 V8.2.1 (Or.inl nbw)
  have f17 := Fld.other W13 V8.2.2.1 (Or.inl nbw)
  have f19 := Sta.wr W13 V8.2.2.2.2
  have N13 := Fr.snoc X13 N8 g2
  have sz13 : n0 ≤ h13.size := by rw [W13.size]; exact sz8
  show OwnG p e below s _ _ _ (T13.setTop (mkF m 53 #[.val (.ref bs), .val (.int d), .val (.int (0 : Int32))] []))
  refine own_by (fun t kk_ => XS.aloadN X13.here hx rfl (hb hby d13_53) rfl rfl kk_) ?_
  show OwnG p e below s _ _ _ (T13.setTop (mkF m 54 #[.val (.ref bs), .val (.int d), .val (.int (0 : Int32))] [(.ref bs)]))
  obtain ⟨cq20, q20, q20'⟩ := Exa.cell f14
  obtain ⟨_, _, ⟨T20, L20, k20, n20⟩, -, X20, ⟨Lc20, hQ20, l20, y20, z20⟩, st20⟩ := X13.privateBack hx (y := (⟨"java/util/BitSet", "checkInvariants", "()V"⟩ : MethodName)) hown (mvT hZ (hw _ (List.mem_of_getElem? (i := 90) rfl))) (mvT hZ (hw _ (List.mem_of_getElem? (i := 91) rfl))) (own_selp hZ (y := (⟨"java/util/BitSet", "checkInvariants", "()V"⟩ : MethodName)) (hw _ (List.mem_of_getElem? (i := 19) rfl)) (hw _ (List.mem_of_getElem? (i := 92) rfl)) (hw _ (List.mem_of_getElem? (i := 91) rfl)) (by decide)) (Cond.privateMethod_at (mvP hZ (hw _ (List.mem_of_getElem? (i := 92) rfl)) (args := #[]))) (mvT hZ (hw _ (List.mem_of_getElem? (i := 94) rfl))) (by decide) (backOf (W := 0) (rm16 l Z a0 hw [] bs h13 n0 sz13 f19) hZ (hw _ (List.mem_of_getElem? (i := 94) rfl)) (hw _ (List.mem_of_getElem? (i := 20) rfl)) (by decide) (by decide)) (g := (mkF m 54 #[.val (.ref bs), .val (.int d), .val (.int (0 : Int32))] [(.ref bs)])) rfl (by rw [hml]; rfl) (Steps.refl _) (a := bs) (by rw [e13]; exact q20) q20' (argsL := []) (rest := []) (lenOf pd_2 rfl) rfl (by show 2 * 0 + _ ≤ _; exact Nat.le_of_eq rfl) (hb hby d13_54) (fun _ _ => ⟨rfl, e13, (by decide : 0 + 0 ≤ _), (by decide : 0 + 0 ≤ _)⟩)
  dsimp only [Pt.U, Pt.locs, Pt.cells, Pt.slots] at X20 l20 y20 z20 st20 hQ20
  subst l20 y20 z20
  refine own_by (fun t kk_ => st20.trans kk_) ?_
  obtain ⟨rfl, N20q, hh20⟩ := hQ20
  have N20 := Fr.app N13 N20q
  have f21 := f14
  rw [← hh20] at f21
  have f22 : Keep h0 T20.heap [bs, wa] := by rw [hh20]; exact f15
  have f23 := f16
  rw [← hh20] at f23
  have f24 := f17
  rw [← hh20] at f24
  have f25 := A13
  rw [← hh20] at f25
  have f26 := f19
  rw [← hh20] at f26
  have sz20 : n0 ≤ T20.heap.size := by rw [hh20]; exact sz13
  show OwnG p e below s _ _ _ (T20.setTop (mkF m 57 #[.val (.ref bs), .val (.int d), .val (.int (0 : Int32))] []))
  exact own_outV X20 hx hret hlk (hb hby d13_57) (by show _ ∧ _; rw [(rfl : T20.heap = T20.heap)]; exact ⟨rfl, N20, f22, ⟨f21, f23, f24, (own_one f25 rfl), f26⟩⟩) (by decide) (by decide)
theorem d12_0 : decode prog_8_method_2_code 0 = .ok (.aload_n 0, 1) := by decide +kernel
theorem d12_1 : decode prog_8_method_2_code 1 = .ok (.getfield 10, 3) := by decide +kernel
theorem d12_4 : decode prog_8_method_2_code 4 = .ok (.iload_n 1, 1) := by decide +kernel
theorem d12_5 : decode prog_8_method_2_code 5 = .ok (.invokevirtual 16, 3) := by decide +kernel
theorem d12_8 : decode prog_8_method_2_code 8 = .ok (.return_, 1) := by decide +kernel
theorem pn_1 : plainName "com/example/score_on_crawl/scoreoncrawl/engine/FetchedPages" = true := by first | (simp [plainName, overriddenIn]; done) | decide +kernel
theorem ef_12 (m : MethodId) (x0 : Addr) (x1 : Int32) : entryFrame m #[(.ref x0), (.int x1)] 2 = mkF m 0 #[.val (.ref x0), .val (.int x1)] [] := by first | (simp [entryFrame, mkF, argsToLocals, Value.category]; done) | rfl
def Q12 (Z : State) (fp bs wa : Addr) (u d : Int32) (M : Int64) (h0 : Heap) (n0 : Nat) (v : Option Value) (h : Heap) (L : List Loc) : Prop := v = none ∧ Fr n0 L ∧ Keep h0 h [bs, wa] ∧ own_V Z h bs wa 1 (own_or M d)
set_option maxRecDepth 65536 in
set_option maxHeartbeats 40000000 in
theorem rm12 (l : Launch) (Z : State) (a0 : Array Value) (hw : ∀ d ∈ tables_1, d.before a0 Z = true) (ws : List Jvm.Cond) (fp bs wa : Addr) (u d : Int32) (M : Int64) (h0 : Heap) (n0 : Nat) (Z0 : n0 ≤ h0.size) (Tb : own_T Z h0 fp bs wa u M) (hu : u = 0 ∨ u = 1) (hd : ¬ d < 0 ∧ (d >>> ((6 : Int32) &&& 31)) = 0) (g1 : n0 ≤ bs) (g2 : n0 ≤ wa) (nbw : bs ≠ wa) (nfb : fp ≠ bs) (nfw : fp ≠ wa) :
    MetFree l (⟨"com/example/score_on_crawl/scoreoncrawl/engine/FetchedPages", "add", "(I)V"⟩ : MethodName) (head1 (Jvm.Cond.code (⟨"com/example/score_on_crawl/scoreoncrawl/engine/FetchedPages", "add", "(I)V"⟩ : MethodName) prog_8_method_2_code 2 none :: ws) ({ frames := 3, cells := 0, slots := 0, locals := 42 } : Room)) (fun aa_ U => aa_ = #[(.ref fp), (.int d)] ∧ Z.Warmed39 U.vm ∧ U.heap = h0) (fun _ _ _ _ _ => True) (fun _ U o U' => ∃ v L, o = .returned v ∧ Q12 Z fp bs wa u d M h0 n0 v U'.heap L ∧ FrameEnd U o U' L ({ frames := 3, cells := 0, slots := 0, locals := 42 } : Room).cells ({ frames := 3, cells := 0, slots := 0, locals := 42 } : Room).slots) := by
  refine own_met (Q := fun v h L => Q12 Z fp bs wa u d M h0 n0 v h L) (plainFor_of_name pn_1) ?_
  intro p e s m below meth c s₁ hx hby hml hret hlk hown hnm hZ X0 e0
  have N0 := Fr.nil n0
  rw [ef_12 m fp d]
  show OwnG p e below s _ _ _ (s₁.setTop (mkF m 0 #[.val (.ref fp), .val (.int d)] []))
  refine own_by (fun t kk_ => XS.aloadN X0.here hx rfl (hb hby d12_0) rfl rfl kk_) ?_
  show OwnG p e below s _ _ _ (s₁.setTop (mkF m 1 #[.val (.ref fp), .val (.int d)] [(.ref fp)]))
  obtain ⟨T1, X1, e1, st1⟩ := getF X0 hx hZ hown (host := "") (Or.inl (hw _ (List.mem_of_getElem? (i := 40) rfl))) Via.refl e0 Tb.2.1 (g := (mkF m 1 #[.val (.ref fp), .val (.int d)] [(.ref fp)])) rfl rfl (hb hby d12_1)
  refine own_by (fun t kk_ => st1 _ kk_) ?_
  show OwnG p e below s _ _ _ (T1.setTop (mkF m 4 #[.val (.ref fp), .val (.int d)] [(.ref bs)]))
  refine own_by (fun t kk_ => XS.iloadN X1.here hx rfl (hb hby d12_4) rfl  kk_) ?_
  show OwnG p e below s _ _ _ (T1.setTop (mkF m 5 #[.val (.ref fp), .val (.int d)] [(.int d), (.ref bs)]))
  obtain ⟨cq2, kq2, q2a, q2b, q2c⟩ := isOf hZ e1 Tb.2.2.1
  obtain ⟨_, _, ⟨T2, L2, k2, n2⟩, -, X2, ⟨Lc2, hQ2, l2, y2, z2⟩, st2⟩ := X1.virtualBack hx (y := (⟨"java/util/BitSet", "set", "(I)V"⟩ : MethodName)) (z := (⟨"java/util/BitSet", "set", "(I)V"⟩ : MethodName)) hown (mvT hZ (hw _ (List.mem_of_getElem? (i := 75) rfl))) (mvT hZ (hw _ (List.mem_of_getElem? (i := 76) rfl))) (notFace_of_selects (args := #[]) (mvT hZ (hw _ (List.mem_of_getElem? (i := 78) rfl)))) (mvT hZ (hw _ (List.mem_of_getElem? (i := 78) rfl))) (mvT hZ (hw _ (List.mem_of_getElem? (i := 77) rfl))) (by decide) (backOf (W := 0) (rm13 l Z a0 hw [] bs wa u d M h0 n0 Z0 ⟨Tb.2.2.1, Tb.2.2.2.1, Tb.2.2.2.2.1, Tb.2.2.2.2.2.1, Tb.2.2.2.2.2.2⟩ hu hd g1 g2 nbw) hZ (hw _ (List.mem_of_getElem? (i := 79) rfl)) (hw _ (List.mem_of_getElem? (i := 20) rfl)) (by decide) (by decide)) q2a q2c (g := (mkF m 5 #[.val (.ref fp), .val (.int d)] [(.int d), (.ref bs)])) rfl (by rw [hml]; rfl) (Steps.refl _) (argsL := [(.int d)]) (rest := []) (lenOf pd_0 rfl) rfl (by show 2 * 0 + _ ≤ _; exact Nat.le_of_eq rfl) (hb hby d12_5) (fun _ _ => ⟨rfl, e1, (by decide : 0 + 0 ≤ _), (by decide : 0 + 0 ≤ _)⟩)
  dsimp only [Pt.U, Pt.locs, Pt.cells, Pt.slots] at X2 l2 y2 z2 st2 hQ2
  subst l2 y2 z2
  refine own_by (fun t kk_ => st2.trans kk_) ?_
  obtain ⟨rfl, N2q, K2, V2⟩ := hQ2
  have N2 := Fr.app N0 N2q
  have sz2 : n0 ≤ T2.heap.size := Nat.le_trans Z0 K2.1
  have f3 := Exa.keep Tb.1 K2
  have f4 := Fld.keep Tb.2.1 K2 (ninS nfb (ninS nfw nin0))
  have f5 := Exa.keep Tb.2.2.1 K2
  have f7 := Keep.trans (Keep.refl h0 [bs, wa]) K2 (allS (Or.inl (by simp)) (allS (Or.inl (by simp)) all0))
  show OwnG p e below s _ _ _ (T2.setTop (mkF m 8 #[.val (.ref fp), .val (.int d)] []))
  exact own_outV X2 hx hret hlk (hb hby d12_8) (by show _ ∧ _; rw [(rfl : T2.heap = T2.heap)]; exact ⟨rfl, N2, f7, ⟨V2.1, V2.2.1, V2.2.2.1, V2.2.2.2.1, V2.2.2.2.2⟩⟩) (by decide) (by decide)
theorem d20_0 : decode jdk_33_method_48_code 0 = .ok (.iload_n 0, 1) := by decide +kernel
theorem d20_1 : decode jdk_33_method_48_code 1 = .ok (.iconst (-1), 1) := by decide +kernel
theorem d20_2 : decode jdk_33_method_48_code 2 = .ok (.ixor, 1) := by decide +kernel
theorem d20_3 : decode jdk_33_method_48_code 3 = .ok (.iload_n 0, 1) := by decide +kernel
theorem d20_4 : decode jdk_33_method_48_code 4 = .ok (.iconst 1, 1) := by decide +kernel
theorem d20_5 : decode jdk_33_method_48_code 5 = .ok (.isub, 1) := by decide +kernel
theorem d20_6 : decode jdk_33_method_48_code 6 = .ok (.iand, 1) := by decide +kernel
theorem d20_7 : decode jdk_33_method_48_code 7 = .ok (.istore_n 0, 1) := by decide +kernel
theorem d20_8 : decode jdk_33_method_48_code 8 = .ok (.iload_n 0, 1) := by decide +kernel
theorem d20_9 : decode jdk_33_method_48_code 9 = .ok (.ifCond .gt 8, 3) := by decide +kernel
theorem d20_12 : decode jdk_33_method_48_code 12 = .ok (.iload_n 0, 1) := by decide +kernel
theorem d20_13 : decode jdk_33_method_48_code 13 = .ok (.bipush 32, 2) := by decide +kernel
theorem d20_15 : decode jdk_33_method_48_code 15 = .ok (.iand, 1) := by decide +kernel
theorem d20_16 : decode jdk_33_method_48_code 16 = .ok (.ireturn, 1) := by decide +kernel
theorem d20_17 : decode jdk_33_method_48_code 17 = .ok (.iconst 1, 1) := by decide +kernel
theorem d20_18 : decode jdk_33_method_48_code 18 = .ok (.istore_n 1, 1) := by decide +kernel
theorem d20_19 : decode jdk_33_method_48_code 19 = .ok (.iload_n 0, 1) := by decide +kernel
theorem d20_20 : decode jdk_33_method_48_code 20 = .ok (.ldc_w 264, 3) := by decide +kernel
theorem d20_23 : decode jdk_33_method_48_code 23 = .ok (.if_icmp .le 11, 3) := by decide +kernel
theorem d20_26 : decode jdk_33_method_48_code 26 = .ok (.iinc 1 16, 3) := by decide +kernel
theorem d20_29 : decode jdk_33_method_48_code 29 = .ok (.iload_n 0, 1) := by decide +kernel
theorem d20_30 : decode jdk_33_method_48_code 30 = .ok (.bipush 16, 2) := by decide +kernel
theorem d20_32 : decode jdk_33_method_48_code 32 = .ok (.iushr, 1) := by decide +kernel
theorem d20_33 : decode jdk_33_method_48_code 33 = .ok (.istore_n 0, 1) := by decide +kernel
theorem d20_34 : decode jdk_33_method_48_code 34 = .ok (.iload_n 0, 1) := by decide +kernel
theorem d20_35 : decode jdk_33_method_48_code 35 = .ok (.sipush 256, 3) := by decide +kernel
theorem d20_38 : decode jdk_33_method_48_code 38 = .ok (.if_icmp .le 11, 3) := by decide +kernel
theorem d20_41 : decode jdk_33_method_48_code 41 = .ok (.iinc 1 8, 3) := by decide +kernel
theorem d20_44 : decode jdk_33_method_48_code 44 = .ok (.iload_n 0, 1) := by decide +kernel
theorem d20_45 : decode jdk_33_method_48_code 45 = .ok (.bipush 8, 2) := by decide +kernel
theorem d20_47 : decode jdk_33_method_48_code 47 = .ok (.iushr, 1) := by decide +kernel
theorem d20_48 : decode jdk_33_method_48_code 48 = .ok (.istore_n 0, 1) := by decide +kernel
theorem d20_49 : decode jdk_33_method_48_code 49 = .ok (.iload_n 0, 1) := by decide +kernel
theorem d20_50 : decode jdk_33_method_48_code 50 = .ok (.bipush 16, 2) := by decide +kernel
theorem d20_52 : decode jdk_33_method_48_code 52 = .ok (.if_icmp .le 10, 3) := by decide +kernel
theorem d20_55 : decode jdk_33_method_48_code 55 = .ok (.iinc 1 4, 3) := by decide +kernel
theorem d20_58 : decode jdk_33_method_48_code 58 = .ok (.iload_n 0, 1) := by decide +kernel
theorem d20_59 : decode jdk_33_method_48_code 59 = .ok (.iconst 4, 1) := by decide +kernel
theorem d20_60 : decode jdk_33_method_48_code 60 = .ok (.iushr, 1) := by decide +kernel
theorem d20_61 : decode jdk_33_method_48_code 61 = .ok (.istore_n 0, 1) := by decide +kernel
theorem d20_62 : decode jdk_33_method_48_code 62 = .ok (.iload_n 0, 1) := by decide +kernel
theorem d20_63 : decode jdk_33_method_48_code 63 = .ok (.iconst 4, 1) := by decide +kernel
theorem d20_64 : decode jdk_33_method_48_code 64 = .ok (.if_icmp .le 10, 3) := by decide +kernel
theorem d20_67 : decode jdk_33_method_48_code 67 = .ok (.iinc 1 2, 3) := by decide +kernel
theorem d20_70 : decode jdk_33_method_48_code 70 = .ok (.iload_n 0, 1) := by decide +kernel
theorem d20_71 : decode jdk_33_method_48_code 71 = .ok (.iconst 2, 1) := by decide +kernel
theorem d20_72 : decode jdk_33_method_48_code 72 = .ok (.iushr, 1) := by decide +kernel
theorem d20_73 : decode jdk_33_method_48_code 73 = .ok (.istore_n 0, 1) := by decide +kernel
theorem d20_74 : decode jdk_33_method_48_code 74 = .ok (.iload_n 1, 1) := by decide +kernel
theorem d20_75 : decode jdk_33_method_48_code 75 = .ok (.iload_n 0, 1) := by decide +kernel
theorem d20_76 : decode jdk_33_method_48_code 76 = .ok (.iconst 1, 1) := by decide +kernel
theorem d20_77 : decode jdk_33_method_48_code 77 = .ok (.iushr, 1) := by decide +kernel
theorem d20_78 : decode jdk_33_method_48_code 78 = .ok (.iadd, 1) := by decide +kernel
theorem d20_79 : decode jdk_33_method_48_code 79 = .ok (.ireturn, 1) := by decide +kernel
theorem pn_2 : plainName "java/lang/Integer" = true := by first | (simp [plainName, overriddenIn]; done) | decide +kernel
theorem ef_20 (m : MethodId) (x0 : Int32) : entryFrame m #[(.int x0)] 2 = mkF m 0 #[.val (.int x0), .unset] [] := by first | (simp [entryFrame, mkF, argsToLocals, Value.category]; done) | rfl
def Q20 (Z : State) (x : Int32) (h0 : Heap) (n0 : Nat) (v : Option Value) (h : Heap) (L : List Loc) : Prop := v = some (.int (own_tz x)) ∧ Fr n0 L ∧ h = h0
set_option maxRecDepth 65536 in
set_option maxHeartbeats 40000000 in
theorem rm20 (l : Launch) (Z : State) (a0 : Array Value) (hw : ∀ d ∈ tables_1, d.before a0 Z = true) (ws : List Jvm.Cond) (x : Int32) (h0 : Heap) (n0 : Nat) (Z0 : n0 ≤ h0.size) (hr : own_q x) :
    MetFree l (⟨"java/lang/Integer", "numberOfTrailingZeros", "(I)I"⟩ : MethodName) (head1 (Jvm.Cond.code (⟨"java/lang/Integer", "numberOfTrailingZeros", "(I)I"⟩ : MethodName) jdk_33_method_48_code 2 (some .int) :: ws) ({ frames := 0, cells := 0, slots := 0, locals := 0 } : Room)) (fun aa_ U => aa_ = #[(.int x)] ∧ Z.Warmed39 U.vm ∧ U.heap = h0) (fun _ _ _ _ _ => True) (fun _ U o U' => ∃ v L, o = .returned v ∧ Q20 Z x h0 n0 v U'.heap L ∧ FrameEnd U o U' L ({ frames := 0, cells := 0, slots := 0, locals := 0 } : Room).cells ({ frames := 0, cells := 0, slots := 0, locals := 0 } : Room).slots) := by
  refine own_met (Q := fun v h L => Q20 Z x h0 n0 v h L) (plainFor_of_name pn_2) ?_
  intro p e s m below meth c s₁ hx hby hml hret hlk hown hnm hZ X0 e0
  have N0 := Fr.nil n0
  rw [ef_20 m x]
  show OwnG p e below s _ _ _ (s₁.setTop (mkF m 0 #[.val (.int x), .unset] []))
  refine own_by (fun t kk_ => XS.iloadN X0.here hx rfl (hb hby d20_0) rfl  kk_) ?_
  show OwnG p e below s _ _ _ (s₁.setTop (mkF m 1 #[.val (.int x), .unset] [(.int x)]))
  refine own_by (fun t kk_ => XS.iconst X0.here hx rfl (hb hby d20_1) kk_) ?_
  show OwnG p e below s _ _ _ (s₁.setTop (mkF m 2 #[.val (.int x), .unset] [(.int (-1 : Int32)), (.int x)]))
  refine own_by (fun t kk_ => XS.ixor X0.here hx rfl (hb hby d20_2) rfl kk_) ?_
  show OwnG p e below s _ _ _ (s₁.setTop (mkF m 3 #[.val (.int x), .unset] [(.int (x ^^^ (-1 : Int32)))]))
  refine own_by (fun t kk_ => XS.iloadN X0.here hx rfl (hb hby d20_3) rfl  kk_) ?_
  show OwnG p e below s _ _ _ (s₁.setTop (mkF m 4 #[.val (.int x), .unset] [(.int x), (.int (x ^^^ (-1 : Int32)))]))
  refine own_by (fun t kk_ => XS.iconst X0.here hx rfl (hb hby d20_4) kk_) ?_
  show OwnG p e below s _ _ _ (s₁.setTop (mkF m 5 #[.val (.int x), .unset] [(.int (1 : Int32)), (.int x), (.int (x ^^^ (-1 : Int32)))]))
  refine own_by (fun t kk_ => XS.isub X0.here hx rfl (hb hby d20_5) rfl kk_) ?_
  show OwnG p e below s _ _ _ (s₁.setTop (mkF m 6 #[.val (.int x), .unset] [(.int (x - (1 : Int32))), (.int (x ^^^ (-1 : Int32)))]))
  refine own_by (fun t kk_ => XS.iand X0.here hx rfl (hb hby d20_6) rfl kk_) ?_
  show OwnG p e below s _ _ _ (s₁.setTop (mkF m 7 #[.val (.int x), .unset] [(.int ((x ^^^ (-1 : Int32)) &&& (x - (1 : Int32))))]))
  rcases hr with hr | hr | hr | hr
  · rw [show (x ^^^ (-1 : Int32)) &&& (x - (1 : Int32)) = (0 : Int32) from hr]
    show OwnG p e below s _ _ _ (s₁.setTop (mkF m 7 #[.val (.int x), .unset] [(.int (0 : Int32))]))
    refine own_by (fun t kk_ => XS.istoreN X0.here hx rfl (hb hby d20_7) rfl (l' := #[.val (.int (0 : Int32)), .unset]) rfl kk_) ?_
    show OwnG p e below s _ _ _ (s₁.setTop (mkF m 8 #[.val (.int (0 : Int32)), .unset] []))
    refine own_by (fun t kk_ => XS.iloadN X0.here hx rfl (hb hby d20_8) rfl  kk_) ?_
    show OwnG p e below s _ _ _ (s₁.setTop (mkF m 9 #[.val (.int (0 : Int32)), .unset] [(.int (0 : Int32))]))
    refine own_by (fun t kk_ => XS.ifNo X0.here hx rfl (hb hby d20_9) rfl ((if0 _ _).trans (flt (by decide)).2.2.1) kk_) ?_
    show OwnG p e below s _ _ _ (s₁.setTop (mkF m 12 #[.val (.int (0 : Int32)), .unset] []))
    refine own_by (fun t kk_ => XS.iloadN X0.here hx rfl (hb hby d20_12) rfl  kk_) ?_
    show OwnG p e below s _ _ _ (s₁.setTop (mkF m 13 #[.val (.int (0 : Int32)), .unset] [(.int (0 : Int32))]))
    refine own_by (fun t kk_ => XS.bipush X0.here hx rfl (hb hby d20_13) kk_) ?_
    show OwnG p e below s _ _ _ (s₁.setTop (mkF m 15 #[.val (.int (0 : Int32)), .unset] [(.int (32 : Int32)), (.int (0 : Int32))]))
    refine own_by (fun t kk_ => XS.iand X0.here hx rfl (hb hby d20_15) rfl kk_) ?_
    show OwnG p e below s _ _ _ (s₁.setTop (mkF m 16 #[.val (.int (0 : Int32)), .unset] [(.int ((0 : Int32) &&& (32 : Int32)))]))
    exact own_outI X0 hx hret hlk (hb hby d20_16) (⟨by unfold own_tz; rw [hr]; decide, N0, e0⟩) (by decide) (by decide)
  · rw [show (x ^^^ (-1 : Int32)) &&& (x - (1 : Int32)) = (1 : Int32) from hr]
    show OwnG p e below s _ _ _ (s₁.setTop (mkF m 7 #[.val (.int x), .unset] [(.int (1 : Int32))]))
    refine own_by (fun t kk_ => XS.istoreN X0.here hx rfl (hb hby d20_7) rfl (l' := #[.val (.int (1 : Int32)), .unset]) rfl kk_) ?_
    show OwnG p e below s _ _ _ (s₁.setTop (mkF m 8 #[.val (.int (1 : Int32)), .unset] []))
    refine own_by (fun t kk_ => XS.iloadN X0.here hx rfl (hb hby d20_8) rfl  kk_) ?_
    show OwnG p e below s _ _ _ (s₁.setTop (mkF m 9 #[.val (.int (1 : Int32)), .unset] [(.int (1 : Int32))]))
    refine own_by (fun t kk_ => XS.ifYes X0.here hx rfl (pc0 := 9) (pc' := 17) rfl (hb hby d20_9) rfl ((if0 _ _).trans (tlt (by decide)).2.2.1) (by decide) (by decide) kk_) ?_
    show OwnG p e below s _ _ _ (s₁.setTop (mkF m 17 #[.val (.int (1 : Int32)), .unset] []))
    refine own_by (fun t kk_ => XS.iconst X0.here hx rfl (hb hby d20_17) kk_) ?_
    show OwnG p e below s _ _ _ (s₁.setTop (mkF m 18 #[.val (.int (1 : Int32)), .unset] [(.int (1 : Int32))]))
    refine own_by (fun t kk_ => XS.istoreN X0.here hx rfl (hb hby d20_18) rfl (l' := #[.val (.int (1 : Int32)), .val (.int (1 : Int32))]) rfl kk_) ?_
    show OwnG p e below s _ _ _ (s₁.setTop (mkF m 19 #[.val (.int (1 : Int32)), .val (.int (1 : Int32))] []))
    refine own_by (fun t kk_ => XS.iloadN X0.here hx rfl (hb hby d20_19) rfl  kk_) ?_
    show OwnG p e below s _ _ _ (s₁.setTop (mkF m 20 #[.val (.int (1 : Int32)), .val (.int (1 : Int32))] [(.int (1 : Int32))]))
    refine own_by (fun t kk_ => X0.ldcwInt hx hown (mvT hZ (hw _ (List.mem_of_getElem? (i := 115) rfl))) (g := (mkF m 20 #[.val (.int (1 : Int32)), .val (.int (1 : Int32))] [(.int (1 : Int32))])) rfl (hb hby d20_20) _ kk_) ?_
    show OwnG p e below s _ _ _ (s₁.setTop (mkF m 23 #[.val (.int (1 : Int32)), .val (.int (1 : Int32))] [(.int (65536 : Int32)), (.int (1 : Int32))]))
    refine own_by (fun t kk_ => XS.icmpYes X0.here hx rfl (pc0 := 23) (pc' := 34) rfl (hb hby d20_23) rfl (flt (by decide)).2.2.2 (by decide) (by decide) kk_) ?_
    show OwnG p e below s _ _ _ (s₁.setTop (mkF m 34 #[.val (.int (1 : Int32)), .val (.int (1 : Int32))] []))
    refine own_by (fun t kk_ => XS.iloadN X0.here hx rfl (hb hby d20_34) rfl  kk_) ?_
    show OwnG p e below s _ _ _ (s₁.setTop (mkF m 35 #[.val (.int (1 : Int32)), .val (.int (1 : Int32))] [(.int (1 : Int32))]))
    refine own_by (fun t kk_ => XS.sipush X0.here hx rfl (hb hby d20_35) kk_) ?_
    show OwnG p e below s _ _ _ (s₁.setTop (mkF m 38 #[.val (.int (1 : Int32)), .val (.int (1 : Int32))] [(.int (256 : Int32)), (.int (1 : Int32))]))
    refine own_by (fun t kk_ => XS.icmpYes X0.here hx rfl (pc0 := 38) (pc' := 49) rfl (hb hby d20_38) rfl (flt (by decide)).2.2.2 (by decide) (by decide) kk_) ?_
    show OwnG p e below s _ _ _ (s₁.setTop (mkF m 49 #[.val (.int (1 : Int32)), .val (.int (1 : Int32))] []))
    refine own_by (fun t kk_ => XS.iloadN X0.here hx rfl (hb hby d20_49) rfl  kk_) ?_
    show OwnG p e below s _ _ _ (s₁.setTop (mkF m 50 #[.val (.int (1 : Int32)), .val (.int (1 : Int32))] [(.int (1 : Int32))]))
    refine own_by (fun t kk_ => XS.bipush X0.here hx rfl (hb hby d20_50) kk_) ?_
    show OwnG p e below s _ _ _ (s₁.setTop (mkF m 52 #[.val (.int (1 : Int32)), .val (.int (1 : Int32))] [(.int (16 : Int32)), (.int (1 : Int32))]))
    refine own_by (fun t kk_ => XS.icmpYes X0.here hx rfl (pc0 := 52) (pc' := 62) rfl (hb hby d20_52) rfl (flt (by decide)).2.2.2 (by decide) (by decide) kk_) ?_
    show OwnG p e below s _ _ _ (s₁.setTop (mkF m 62 #[.val (.int (1 : Int32)), .val (.int (1 : Int32))] []))
    refine own_by (fun t kk_ => XS.iloadN X0.here hx rfl (hb hby d20_62) rfl  kk_) ?_
    show OwnG p e below s _ _ _ (s₁.setTop (mkF m 63 #[.val (.int (1 : Int32)), .val (.int (1 : Int32))] [(.int (1 : Int32))]))
    refine own_by (fun t kk_ => XS.iconst X0.here hx rfl (hb hby d20_63) kk_) ?_
    show OwnG p e below s _ _ _ (s₁.setTop (mkF m 64 #[.val (.int (1 : Int32)), .val (.int (1 : Int32))] [(.int (4 : Int32)), (.int (1 : Int32))]))
    refine own_by (fun t kk_ => XS.icmpYes X0.here hx rfl (pc0 := 64) (pc' := 74) rfl (hb hby d20_64) rfl (flt (by decide)).2.2.2 (by decide) (by decide) kk_) ?_
    show OwnG p e below s _ _ _ (s₁.setTop (mkF m 74 #[.val (.int (1 : Int32)), .val (.int (1 : Int32))] []))
    refine own_by (fun t kk_ => XS.iloadN X0.here hx rfl (hb hby d20_74) rfl  kk_) ?_
    show OwnG p e below s _ _ _ (s₁.setTop (mkF m 75 #[.val (.int (1 : Int32)), .val (.int (1 : Int32))] [(.int (1 : Int32))]))
    refine own_by (fun t kk_ => XS.iloadN X0.here hx rfl (hb hby d20_75) rfl  kk_) ?_
    show OwnG p e below s _ _ _ (s₁.setTop (mkF m 76 #[.val (.int (1 : Int32)), .val (.int (1 : Int32))] [(.int (1 : Int32)), (.int (1 : Int32))]))
    refine own_by (fun t kk_ => XS.iconst X0.here hx rfl (hb hby d20_76) kk_) ?_
    show OwnG p e below s _ _ _ (s₁.setTop (mkF m 77 #[.val (.int (1 : Int32)), .val (.int (1 : Int32))] [(.int (1 : Int32)), (.int (1 : Int32)), (.int (1 : Int32))]))
    refine own_by (fun t kk_ => XS.iushr X0.here hx rfl (hb hby d20_77) rfl kk_) ?_
    show OwnG p e below s _ _ _ (s₁.setTop (mkF m 78 #[.val (.int (1 : Int32)), .val (.int (1 : Int32))] [(.int (((1 : Int32).toUInt32 >>> ((1 : Int32) &&& 31).toUInt32).toInt32)), (.int (1 : Int32))]))
    refine own_by (fun t kk_ => XS.iadd X0.here hx rfl (hb hby d20_78) rfl kk_) ?_
    show OwnG p e below s _ _ _ (s₁.setTop (mkF m 79 #[.val (.int (1 : Int32)), .val (.int (1 : Int32))] [(.int ((1 : Int32) + (((1 : Int32).toUInt32 >>> ((1 : Int32) &&& 31).toUInt32).toInt32)))]))
    exact own_outI X0 hx hret hlk (hb hby d20_79) (⟨by unfold own_tz; rw [hr]; decide, N0, e0⟩) (by decide) (by decide)
  · rw [show (x ^^^ (-1 : Int32)) &&& (x - (1 : Int32)) = (3 : Int32) from hr]
    show OwnG p e below s _ _ _ (s₁.setTop (mkF m 7 #[.val (.int x), .unset] [(.int (3 : Int32))]))
    refine own_by (fun t kk_ => XS.istoreN X0.here hx rfl (hb hby d20_7) rfl (l' := #[.val (.int (3 : Int32)), .unset]) rfl kk_) ?_
    show OwnG p e below s _ _ _ (s₁.setTop (mkF m 8 #[.val (.int (3 : Int32)), .unset] []))
    refine own_by (fun t kk_ => XS.iloadN X0.here hx rfl (hb hby d20_8) rfl  kk_) ?_
    show OwnG p e below s _ _ _ (s₁.setTop (mkF m 9 #[.val (.int (3 : Int32)), .unset] [(.int (3 : Int32))]))
    refine own_by (fun t kk_ => XS.ifYes X0.here hx rfl (pc0 := 9) (pc' := 17) rfl (hb hby d20_9) rfl ((if0 _ _).trans (tlt (by decide)).2.2.1) (by decide) (by decide) kk_) ?_
    show OwnG p e below s _ _ _ (s₁.setTop (mkF m 17 #[.val (.int (3 : Int32)), .unset] []))
    refine own_by (fun t kk_ => XS.iconst X0.here hx rfl (hb hby d20_17) kk_) ?_
    show OwnG p e below s _ _ _ (s₁.setTop (mkF m 18 #[.val (.int (3 : Int32)), .unset] [(.int (1 : Int32))]))
    refine own_by (fun t kk_ => XS.istoreN X0.here hx rfl (hb hby d20_18) rfl (l' := #[.val (.int (3 : Int32)), .val (.int (1 : Int32))]) rfl kk_) ?_
    show OwnG p e below s _ _ _ (s₁.setTop (mkF m 19 #[.val (.int (3 : Int32)), .val (.int (1 : Int32))] []))
    refine own_by (fun t kk_ => XS.iloadN X0.here hx rfl (hb hby d20_19) rfl  kk_) ?_
    show OwnG p e below s _ _ _ (s₁.setTop (mkF m 20 #[.val (.int (3 : Int32)), .val (.int (1 : Int32))] [(.int (3 : Int32))]))
    refine own_by (fun t kk_ => X0.ldcwInt hx hown (mvT hZ (hw _ (List.mem_of_getElem? (i := 115) rfl))) (g := (mkF m 20 #[.val (.int (3 : Int32)), .val (.int (1 : Int32))] [(.int (3 : Int32))])) rfl (hb hby d20_20) _ kk_) ?_
    show OwnG p e below s _ _ _ (s₁.setTop (mkF m 23 #[.val (.int (3 : Int32)), .val (.int (1 : Int32))] [(.int (65536 : Int32)), (.int (3 : Int32))]))
    refine own_by (fun t kk_ => XS.icmpYes X0.here hx rfl (pc0 := 23) (pc' := 34) rfl (hb hby d20_23) rfl (flt (by decide)).2.2.2 (by decide) (by decide) kk_) ?_
    show OwnG p e below s _ _ _ (s₁.setTop (mkF m 34 #[.val (.int (3 : Int32)), .val (.int (1 : Int32))] []))
    refine own_by (fun t kk_ => XS.iloadN X0.here hx rfl (hb hby d20_34) rfl  kk_) ?_
    show OwnG p e below s _ _ _ (s₁.setTop (mkF m 35 #[.val (.int (3 : Int32)), .val (.int (1 : Int32))] [(.int (3 : Int32))]))
    refine own_by (fun t kk_ => XS.sipush X0.here hx rfl (hb hby d20_35) kk_) ?_
    show OwnG p e below s _ _ _ (s₁.setTop (mkF m 38 #[.val (.int (3 : Int32)), .val (.int (1 : Int32))] [(.int (256 : Int32)), (.int (3 : Int32))]))
    refine own_by (fun t kk_ => XS.icmpYes X0.here hx rfl (pc0 := 38) (pc' := 49) rfl (hb hby d20_38) rfl (flt (by decide)).2.2.2 (by decide) (by decide) kk_) ?_
    show OwnG p e below s _ _ _ (s₁.setTop (mkF m 49 #[.val (.int (3 : Int32)), .val (.int (1 : Int32))] []))
    refine own_by (fun t kk_ => XS.iloadN X0.here hx rfl (hb hby d20_49) rfl  kk_) ?_
    show OwnG p e below s _ _ _ (s₁.setTop (mkF m 50 #[.val (.int (3 : Int32)), .val (.int (1 : Int32))] [(.int (3 : Int32))]))
    refine own_by (fun t kk_ => XS.bipush X0.here hx rfl (hb hby d20_50) kk_) ?_
    show OwnG p e below s _ _ _ (s₁.setTop (mkF m 52 #[.val (.int (3 : Int32)), .val (.int (1 : Int32))] [(.int (16 : Int32)), (.int (3 : Int32))]))
    refine own_by (fun t kk_ => XS.icmpYes X0.here hx rfl (pc0 := 52) (pc' := 62) rfl (hb hby d20_52) rfl (flt (by decide)).2.2.2 (by decide) (by decide) kk_) ?_
    show OwnG p e below s _ _ _ (s₁.setTop (mkF m 62 #[.val (.int (3 : Int32)), .val (.int (1 : Int32))] []))
    refine own_by (fun t kk_ => XS.iloadN X0.here hx rfl (hb hby d20_62) rfl  kk_) ?_
    show OwnG p e below s _ _ _ (s₁.setTop (mkF m 63 #[.val (.int (3 : Int32)), .val (.int (1 : Int32))] [(.int (3 : Int32))]))
    refine own_by (fun t kk_ => XS.iconst X0.here hx rfl (hb hby d20_63) kk_) ?_
    show OwnG p e below s _ _ _ (s₁.setTop (mkF m 64 #[.val (.int (3 : Int32)), .val (.int (1 : Int32))] [(.int (4 : Int32)), (.int (3 : Int32))]))
    refine own_by (fun t kk_ => XS.icmpYes X0.here hx rfl (pc0 := 64) (pc' := 74) rfl (hb hby d20_64) rfl (flt (by decide)).2.2.2 (by decide) (by decide) kk_) ?_
    show OwnG p e below s _ _ _ (s₁.setTop (mkF m 74 #[.val (.int (3 : Int32)), .val (.int (1 : Int32))] []))
    refine own_by (fun t kk_ => XS.iloadN X0.here hx rfl (hb hby d20_74) rfl  kk_) ?_
    show OwnG p e below s _ _ _ (s₁.setTop (mkF m 75 #[.val (.int (3 : Int32)), .val (.int (1 : Int32))] [(.int (1 : Int32))]))
    refine own_by (fun t kk_ => XS.iloadN X0.here hx rfl (hb hby d20_75) rfl  kk_) ?_
    show OwnG p e below s _ _ _ (s₁.setTop (mkF m 76 #[.val (.int (3 : Int32)), .val (.int (1 : Int32))] [(.int (3 : Int32)), (.int (1 : Int32))]))
    refine own_by (fun t kk_ => XS.iconst X0.here hx rfl (hb hby d20_76) kk_) ?_
    show OwnG p e below s _ _ _ (s₁.setTop (mkF m 77 #[.val (.int (3 : Int32)), .val (.int (1 : Int32))] [(.int (1 : Int32)), (.int (3 : Int32)), (.int (1 : Int32))]))
    refine own_by (fun t kk_ => XS.iushr X0.here hx rfl (hb hby d20_77) rfl kk_) ?_
    show OwnG p e below s _ _ _ (s₁.setTop (mkF m 78 #[.val (.int (3 : Int32)), .val (.int (1 : Int32))] [(.int (((3 : Int32).toUInt32 >>> ((1 : Int32) &&& 31).toUInt32).toInt32)), (.int (1 : Int32))]))
    refine own_by (fun t kk_ => XS.iadd X0.here hx rfl (hb hby d20_78) rfl kk_) ?_
    show OwnG p e below s _ _ _ (s₁.setTop (mkF m 79 #[.val (.int (3 : Int32)), .val (.int (1 : Int32))] [(.int ((1 : Int32) + (((3 : Int32).toUInt32 >>> ((1 : Int32) &&& 31).toUInt32).toInt32)))]))
    exact own_outI X0 hx hret hlk (hb hby d20_79) (⟨by unfold own_tz; rw [hr]; decide, N0, e0⟩) (by decide) (by decide)
  · rw [show (x ^^^ (-1 : Int32)) &&& (x - (1 : Int32)) = (7 : Int32) from hr]
    show OwnG p e below s _ _ _ (s₁.setTop (mkF m 7 #[.val (.int x), .unset] [(.int (7 : Int32))]))
    refine own_by (fun t kk_ => XS.istoreN X0.here hx rfl (hb hby d20_7) rfl (l' := #[.val (.int (7 : Int32)), .unset]) rfl kk_) ?_
    show OwnG p e below s _ _ _ (s₁.setTop (mkF m 8 #[.val (.int (7 : Int32)), .unset] []))
    refine own_by (fun t kk_ => XS.iloadN X0.here hx rfl (hb hby d20_8) rfl  kk_) ?_
    show OwnG p e below s _ _ _ (s₁.setTop (mkF m 9 #[.val (.int (7 : Int32)), .unset] [(.int (7 : Int32))]))
    refine own_by (fun t kk_ => XS.ifYes X0.here hx rfl (pc0 := 9) (pc' := 17) rfl (hb hby d20_9) rfl ((if0 _ _).trans (tlt (by decide)).2.2.1) (by decide) (by decide) kk_) ?_
    show OwnG p e below s _ _ _ (s₁.setTop (mkF m 17 #[.val (.int (7 : Int32)), .unset] []))
    refine own_by (fun t kk_ => XS.iconst X0.here hx rfl (hb hby d20_17) kk_) ?_
    show OwnG p e below s _ _ _ (s₁.setTop (mkF m 18 #[.val (.int (7 : Int32)), .unset] [(.int (1 : Int32))]))
    refine own_by (fun t kk_ => XS.istoreN X0.here hx rfl (hb hby d20_18) rfl (l' := #[.val (.int (7 : Int32)), .val (.int (1 : Int32))]) rfl kk_) ?_
    show OwnG p e below s _ _ _ (s₁.setTop (mkF m 19 #[.val (.int (7 : Int32)), .val (.int (1 : Int32))] []))
    refine own_by (fun t kk_ => XS.iloadN X0.here hx rfl (hb hby d20_19) rfl  kk_) ?_
    show OwnG p e below s _ _ _ (s₁.setTop (mkF m 20 #[.val (.int (7 : Int32)), .val (.int (1 : Int32))] [(.int (7 : Int32))]))
    refine own_by (fun t kk_ => X0.ldcwInt hx hown (mvT hZ (hw _ (List.mem_of_getElem? (i := 115) rfl))) (g := (mkF m 20 #[.val (.int (7 : Int32)), .val (.int (1 : Int32))] [(.int (7 : Int32))])) rfl (hb hby d20_20) _ kk_) ?_
    show OwnG p e below s _ _ _ (s₁.setTop (mkF m 23 #[.val (.int (7 : Int32)), .val (.int (1 : Int32))] [(.int (65536 : Int32)), (.int (7 : Int32))]))
    refine own_by (fun t kk_ => XS.icmpYes X0.here hx rfl (pc0 := 23) (pc' := 34) rfl (hb hby d20_23) rfl (flt (by decide)).2.2.2 (by decide) (by decide) kk_) ?_
    show OwnG p e below s _ _ _ (s₁.setTop (mkF m 34 #[.val (.int (7 : Int32)), .val (.int (1 : Int32))] []))
    refine own_by (fun t kk_ => XS.iloadN X0.here hx rfl (hb hby d20_34) rfl  kk_) ?_
    show OwnG p e below s _ _ _ (s₁.setTop (mkF m 35 #[.val (.int (7 : Int32)), .val (.int (1 : Int32))] [(.int (7 : Int32))]))
    refine own_by (fun t kk_ => XS.sipush X0.here hx rfl (hb hby d20_35) kk_) ?_
    show OwnG p e below s _ _ _ (s₁.setTop (mkF m 38 #[.val (.int (7 : Int32)), .val (.int (1 : Int32))] [(.int (256 : Int32)), (.int (7 : Int32))]))
    refine own_by (fun t kk_ => XS.icmpYes X0.here hx rfl (pc0 := 38) (pc' := 49) rfl (hb hby d20_38) rfl (flt (by decide)).2.2.2 (by decide) (by decide) kk_) ?_
    show OwnG p e below s _ _ _ (s₁.setTop (mkF m 49 #[.val (.int (7 : Int32)), .val (.int (1 : Int32))] []))
    refine own_by (fun t kk_ => XS.iloadN X0.here hx rfl (hb hby d20_49) rfl  kk_) ?_
    show OwnG p e below s _ _ _ (s₁.setTop (mkF m 50 #[.val (.int (7 : Int32)), .val (.int (1 : Int32))] [(.int (7 : Int32))]))
    refine own_by (fun t kk_ => XS.bipush X0.here hx rfl (hb hby d20_50) kk_) ?_
    show OwnG p e below s _ _ _ (s₁.setTop (mkF m 52 #[.val (.int (7 : Int32)), .val (.int (1 : Int32))] [(.int (16 : Int32)), (.int (7 : Int32))]))
    refine own_by (fun t kk_ => XS.icmpYes X0.here hx rfl (pc0 := 52) (pc' := 62) rfl (hb hby d20_52) rfl (flt (by decide)).2.2.2 (by decide) (by decide) kk_) ?_
    show OwnG p e below s _ _ _ (s₁.setTop (mkF m 62 #[.val (.int (7 : Int32)), .val (.int (1 : Int32))] []))
    refine own_by (fun t kk_ => XS.iloadN X0.here hx rfl (hb hby d20_62) rfl  kk_) ?_
    show OwnG p e below s _ _ _ (s₁.setTop (mkF m 63 #[.val (.int (7 : Int32)), .val (.int (1 : Int32))] [(.int (7 : Int32))]))
    refine own_by (fun t kk_ => XS.iconst X0.here hx rfl (hb hby d20_63) kk_) ?_
    show OwnG p e below s _ _ _ (s₁.setTop (mkF m 64 #[.val (.int (7 : Int32)), .val (.int (1 : Int32))] [(.int (4 : Int32)), (.int (7 : Int32))]))
    refine own_by (fun t kk_ => XS.icmpNo X0.here hx rfl (hb hby d20_64) rfl (tlt (by decide)).2.2.2 kk_) ?_
    show OwnG p e below s _ _ _ (s₁.setTop (mkF m 67 #[.val (.int (7 : Int32)), .val (.int (1 : Int32))] []))
    refine own_by (fun t kk_ => XS.iinc X0.here hx rfl (hb hby d20_67) rfl (l' := #[.val (.int (7 : Int32)), .val (.int (3 : Int32))]) rfl kk_) ?_
    show OwnG p e below s _ _ _ (s₁.setTop (mkF m 70 #[.val (.int (7 : Int32)), .val (.int (3 : Int32))] []))
    refine own_by (fun t kk_ => XS.iloadN X0.here hx rfl (hb hby d20_70) rfl  kk_) ?_
    show OwnG p e below s _ _ _ (s₁.setTop (mkF m 71 #[.val (.int (7 : Int32)), .val (.int (3 : Int32))] [(.int (7 : Int32))]))
    refine own_by (fun t kk_ => XS.iconst X0.here hx rfl (hb hby d20_71) kk_) ?_
    show OwnG p e below s _ _ _ (s₁.setTop (mkF m 72 #[.val (.int (7 : Int32)), .val (.int (3 : Int32))] [(.int (2 : Int32)), (.int (7 : Int32))]))
    refine own_by (fun t kk_ => XS.iushr X0.here hx rfl (hb hby d20_72) rfl kk_) ?_
    show OwnG p e below s _ _ _ (s₁.setTop (mkF m 73 #[.val (.int (7 : Int32)), .val (.int (3 : Int32))] [(.int (((7 : Int32).toUInt32 >>> ((2 : Int32) &&& 31).toUInt32).toInt32))]))
    refine own_by (fun t kk_ => XS.istoreN X0.here hx rfl (hb hby d20_73) rfl (l' := #[.val (.int (((7 : Int32).toUInt32 >>> ((2 : Int32) &&& 31).toUInt32).toInt32)), .val (.int (3 : Int32))]) rfl kk_) ?_
    show OwnG p e below s _ _ _ (s₁.setTop (mkF m 74 #[.val (.int (((7 : Int32).toUInt32 >>> ((2 : Int32) &&& 31).toUInt32).toInt32)), .val (.int (3 : Int32))] []))
    refine own_by (fun t kk_ => XS.iloadN X0.here hx rfl (hb hby d20_74) rfl  kk_) ?_
    show OwnG p e below s _ _ _ (s₁.setTop (mkF m 75 #[.val (.int (((7 : Int32).toUInt32 >>> ((2 : Int32) &&& 31).toUInt32).toInt32)), .val (.int (3 : Int32))] [(.int (3 : Int32))]))
    refine own_by (fun t kk_ => XS.iloadN X0.here hx rfl (hb hby d20_75) rfl  kk_) ?_
    show OwnG p e below s _ _ _ (s₁.setTop (mkF m 76 #[.val (.int (((7 : Int32).toUInt32 >>> ((2 : Int32) &&& 31).toUInt32).toInt32)), .val (.int (3 : Int32))] [(.int (((7 : Int32).toUInt32 >>> ((2 : Int32) &&& 31).toUInt32).toInt32)), (.int (3 : Int32))]))
    refine own_by (fun t kk_ => XS.iconst X0.here hx rfl (hb hby d20_76) kk_) ?_
    show OwnG p e below s _ _ _ (s₁.setTop (mkF m 77 #[.val (.int (((7 : Int32).toUInt32 >>> ((2 : Int32) &&& 31).toUInt32).toInt32)), .val (.int (3 : Int32))] [(.int (1 : Int32)), (.int (((7 : Int32).toUInt32 >>> ((2 : Int32) &&& 31).toUInt32).toInt32)), (.int (3 : Int32))]))
    refine own_by (fun t kk_ => XS.iushr X0.here hx rfl (hb hby d20_77) rfl kk_) ?_
    show OwnG p e below s _ _ _ (s₁.setTop (mkF m 78 #[.val (.int (((7 : Int32).toUInt32 >>> ((2 : Int32) &&& 31).toUInt32).toInt32)), .val (.int (3 : Int32))] [(.int (((((7 : Int32).toUInt32 >>> ((2 : Int32) &&& 31).toUInt32).toInt32).toUInt32 >>> ((1 : Int32) &&& 31).toUInt32).toInt32)), (.int (3 : Int32))]))
    refine own_by (fun t kk_ => XS.iadd X0.here hx rfl (hb hby d20_78) rfl kk_) ?_
    show OwnG p e below s _ _ _ (s₁.setTop (mkF m 79 #[.val (.int (((7 : Int32).toUInt32 >>> ((2 : Int32) &&& 31).toUInt32).toInt32)), .val (.int (3 : Int32))] [(.int ((3 : Int32) + (((((7 : Int32).toUInt32 >>> ((2 : Int32) &&& 31).toUInt32).toInt32).toUInt32 >>> ((1 : Int32) &&& 31).toUInt32).toInt32)))]))
    exact own_outI X0 hx hret hlk (hb hby d20_79) (⟨by unfold own_tz; rw [hr]; decide, N0, e0⟩) (by decide) (by decide)
theorem d19_0 : decode jdk_35_method_49_code 0 = .ok (.lload_n 0, 1) := by decide +kernel
theorem d19_1 : decode jdk_35_method_49_code 1 = .ok (.l2i, 1) := by decide +kernel
theorem d19_2 : decode jdk_35_method_49_code 2 = .ok (.istore_n 2, 1) := by decide +kernel
theorem d19_3 : decode jdk_35_method_49_code 3 = .ok (.iload_n 2, 1) := by decide +kernel
theorem d19_4 : decode jdk_35_method_49_code 4 = .ok (.ifCond .ne 17, 3) := by decide +kernel
theorem d19_7 : decode jdk_35_method_49_code 7 = .ok (.bipush 32, 2) := by decide +kernel
theorem d19_9 : decode jdk_35_method_49_code 9 = .ok (.lload_n 0, 1) := by decide +kernel
theorem d19_10 : decode jdk_35_method_49_code 10 = .ok (.bipush 32, 2) := by decide +kernel
theorem d19_12 : decode jdk_35_method_49_code 12 = .ok (.lushr, 1) := by decide +kernel
theorem d19_13 : decode jdk_35_method_49_code 13 = .ok (.l2i, 1) := by decide +kernel
theorem d19_14 : decode jdk_35_method_49_code 14 = .ok (.invokestatic 311, 3) := by decide +kernel
theorem d19_17 : decode jdk_35_method_49_code 17 = .ok (.iadd, 1) := by decide +kernel
theorem d19_18 : decode jdk_35_method_49_code 18 = .ok (.goto 7, 3) := by decide +kernel
theorem d19_21 : decode jdk_35_method_49_code 21 = .ok (.iload_n 2, 1) := by decide +kernel
theorem d19_22 : decode jdk_35_method_49_code 22 = .ok (.invokestatic 311, 3) := by decide +kernel
theorem d19_25 : decode jdk_35_method_49_code 25 = .ok (.ireturn, 1) := by decide +kernel
theorem pn_3 : plainName "java/lang/Long" = true := by first | (simp [plainName, overriddenIn]; done) | decide +kernel
theorem ef_19 (m : MethodId) (x0 : Int64) : entryFrame m #[(.long x0)] 3 = mkF m 0 #[.val (.long x0), .second, .unset] [] := by first | (simp [entryFrame, mkF, argsToLocals, Value.category]; done) | rfl
def Q19 (Z : State) (x : Int64) (h0 : Heap) (n0 : Nat) (v : Option Value) (h : Heap) (L : List Loc) : Prop := v = some (.int (own_tz x.toInt32)) ∧ Fr n0 L ∧ h = h0
set_option maxRecDepth 65536 in
set_option maxHeartbeats 40000000 in
theorem rm19 (l : Launch) (Z : State) (a0 : Array Value) (hw : ∀ d ∈ tables_1, d.before a0 Z = true) (ws : List Jvm.Cond) (x : Int64) (h0 : Heap) (n0 : Nat) (Z0 : n0 ≤ h0.size) (hz : ¬ x.toInt32 = 0) (hr : own_q x.toInt32) :
    MetFree l (⟨"java/lang/Long", "numberOfTrailingZeros", "(J)I"⟩ : MethodName) (head1 (Jvm.Cond.code (⟨"java/lang/Long", "numberOfTrailingZeros", "(J)I"⟩ : MethodName) jdk_35_method_49_code 3 (some .int) :: ws) ({ frames := 1, cells := 0, slots := 0, locals := 14 } : Room)) (fun aa_ U => aa_ = #[(.long x)] ∧ Z.Warmed39 U.vm ∧ U.heap = h0) (fun _ _ _ _ _ => True) (fun _ U o U' => ∃ v L, o = .returned v ∧ Q19 Z x h0 n0 v U'.heap L ∧ FrameEnd U o U' L ({ frames := 1, cells := 0, slots := 0, locals := 14 } : Room).cells ({ frames := 1, cells := 0, slots := 0, locals := 14 } : Room).slots) := by
  refine own_met (Q := fun v h L => Q19 Z x h0 n0 v h L) (plainFor_of_name pn_3) ?_
  intro p e s m below meth c s₁ hx hby hml hret hlk hown hnm hZ X0 e0
  have N0 := Fr.nil n0
  rw [ef_19 m x]
  show OwnG p e below s _ _ _ (s₁.setTop (mkF m 0 #[.val (.long x), .second, .unset] []))
  refine own_by (fun t kk_ => XS.lloadN X0.here hx rfl (hb hby d19_0) rfl  kk_) ?_
  show OwnG p e below s _ _ _ (s₁.setTop (mkF m 1 #[.val (.long x), .second, .unset] [(.long x)]))
  refine own_by (fun t kk_ => XS.l2i X0.here hx rfl (hb hby d19_1) rfl kk_) ?_
  show OwnG p e below s _ _ _ (s₁.setTop (mkF m 2 #[.val (.long x), .second, .unset] [(.int (x.toInt32))]))
  refine own_by (fun t kk_ => XS.istoreN X0.here hx rfl (hb hby d19_2) rfl (l' := #[.val (.long x), .second, .val (.int (x.toInt32))]) rfl kk_) ?_
  show OwnG p e below s _ _ _ (s₁.setTop (mkF m 3 #[.val (.long x), .second, .val (.int (x.toInt32))] []))
  refine own_by (fun t kk_ => XS.iloadN X0.here hx rfl (hb hby d19_3) rfl  kk_) ?_
  show OwnG p e below s _ _ _ (s₁.setTop (mkF m 4 #[.val (.long x), .second, .val (.int (x.toInt32))] [(.int (x.toInt32))]))
  refine own_by (fun t kk_ => XS.ifYes X0.here hx rfl (pc0 := 4) (pc' := 21) rfl (hb hby d19_4) rfl ((if0 _ _).trans (feq hz).2) (by decide) (by decide) kk_) ?_
  show OwnG p e below s _ _ _ (s₁.setTop (mkF m 21 #[.val (.long x), .second, .val (.int (x.toInt32))] []))
  refine own_by (fun t kk_ => XS.iloadN X0.here hx rfl (hb hby d19_21) rfl  kk_) ?_
  show OwnG p e below s _ _ _ (s₁.setTop (mkF m 22 #[.val (.long x), .second, .val (.int (x.toInt32))] [(.int (x.toInt32))]))
  obtain ⟨_, _, ⟨T1, L1, k1, n1⟩, -, X1, ⟨Lc1, hQ1, l1, y1, z1⟩, st1⟩ := Jvm.LawKit.callS X0 hx (y := (⟨"java/lang/Integer", "numberOfTrailingZeros", "(I)I"⟩ : MethodName)) hown (mvT hZ (hw _ (List.mem_of_getElem? (i := 111) rfl))) (mvT hZ (hw _ (List.mem_of_getElem? (i := 112) rfl))) (mvT hZ (hw _ (List.mem_of_getElem? (i := 113) rfl))) (mvT hZ (hw _ (List.mem_of_getElem? (i := 114) rfl))) (by decide) (backOf (W := 0) (rm20 l Z a0 hw [] x.toInt32 h0 n0 Z0 hr) hZ (hw _ (List.mem_of_getElem? (i := 114) rfl)) (hw _ (List.mem_of_getElem? (i := 113) rfl)) (by decide) (by decide)) (g := (mkF m 22 #[.val (.long x), .second, .val (.int (x.toInt32))] [(.int (x.toInt32))])) rfl (by rw [hml]; rfl) (argsL := [(.int (x.toInt32))]) (rest := []) (lenOf pd_1 rfl) rfl (by show 2 * 0 + _ ≤ _; exact Nat.le_of_eq rfl) (hb hby d19_22) (fun _ _ => ⟨rfl, e0, (by decide : 0 + 0 ≤ _), (by decide : 0 + 0 ≤ _)⟩)
  dsimp only [Pt.U, Pt.locs, Pt.cells, Pt.slots] at X1 l1 y1 z1 st1 hQ1
  subst l1 y1 z1
  refine own_by (fun t kk_ => st1 _ kk_) ?_
  obtain ⟨rfl, N1q, hh1⟩ := hQ1
  have N1 := Fr.app N0 N1q
  have sz1 : n0 ≤ T1.heap.size := by rw [hh1]; exact Z0
  show OwnG p e below s _ _ _ (T1.setTop (mkF m 25 #[.val (.long x), .second, .val (.int (x.toInt32))] [(.int (own_tz x.toInt32))]))
  exact own_outI X1 hx hret hlk (hb hby d19_25) (⟨rfl, N1, (Eq.trans (rfl : T1.heap = T1.heap) hh1)⟩) (by decide) (by decide)
theorem d18_0 : decode jdk_92_method_29_code 0 = .ok (.iload_n 1, 1) := by decide +kernel
theorem d18_1 : decode jdk_92_method_29_code 1 = .ok (.ifCond .ge 30, 3) := by decide +kernel
theorem d18_4 : decode jdk_92_method_29_code 4 = .ok (.new 142, 3) := by decide +kernel
theorem d18_7 : decode jdk_92_method_29_code 7 = .ok (.dup, 1) := by decide +kernel
theorem d18_8 : decode jdk_92_method_29_code 8 = .ok (.new 33, 3) := by decide +kernel
theorem d18_11 : decode jdk_92_method_29_code 11 = .ok (.dup, 1) := by decide +kernel
theorem d18_12 : decode jdk_92_method_29_code 12 = .ok (.invokespecial 35, 3) := by decide +kernel
theorem d18_15 : decode jdk_92_method_29_code 15 = .ok (.ldc 144, 2) := by decide +kernel
theorem d18_17 : decode jdk_92_method_29_code 17 = .ok (.invokevirtual 38, 3) := by decide +kernel
theorem d18_20 : decode jdk_92_method_29_code 20 = .ok (.iload_n 1, 1) := by decide +kernel
theorem d18_21 : decode jdk_92_method_29_code 21 = .ok (.invokevirtual 42, 3) := by decide +kernel
theorem d18_24 : decode jdk_92_method_29_code 24 = .ok (.invokevirtual 45, 3) := by decide +kernel
theorem d18_27 : decode jdk_92_method_29_code 27 = .ok (.invokespecial 146, 3) := by decide +kernel
theorem d18_30 : decode jdk_92_method_29_code 30 = .ok (.athrow, 1) := by decide +kernel
theorem d18_31 : decode jdk_92_method_29_code 31 = .ok (.aload_n 0, 1) := by decide +kernel
theorem d18_32 : decode jdk_92_method_29_code 32 = .ok (.invokevirtual 56, 3) := by decide +kernel
theorem d18_35 : decode jdk_92_method_29_code 35 = .ok (.iload_n 1, 1) := by decide +kernel
theorem d18_36 : decode jdk_92_method_29_code 36 = .ok (.invokestatic 52, 3) := by decide +kernel
theorem d18_39 : decode jdk_92_method_29_code 39 = .ok (.istore_n 2, 1) := by decide +kernel
theorem d18_40 : decode jdk_92_method_29_code 40 = .ok (.iload_n 2, 1) := by decide +kernel
theorem d18_41 : decode jdk_92_method_29_code 41 = .ok (.aload_n 0, 1) := by decide +kernel
theorem d18_42 : decode jdk_92_method_29_code 42 = .ok (.getfield 7, 3) := by decide +kernel
theorem d18_45 : decode jdk_92_method_29_code 45 = .ok (.if_icmp .lt 5, 3) := by decide +kernel
theorem d18_48 : decode jdk_92_method_29_code 48 = .ok (.iload_n 1, 1) := by decide +kernel
theorem d18_49 : decode jdk_92_method_29_code 49 = .ok (.ireturn, 1) := by decide +kernel
theorem d18_50 : decode jdk_92_method_29_code 50 = .ok (.aload_n 0, 1) := by decide +kernel
theorem d18_51 : decode jdk_92_method_29_code 51 = .ok (.getfield 11, 3) := by decide +kernel
theorem d18_54 : decode jdk_92_method_29_code 54 = .ok (.iload_n 2, 1) := by decide +kernel
theorem d18_55 : decode jdk_92_method_29_code 55 = .ok (.laload, 1) := by decide +kernel
theorem d18_56 : decode jdk_92_method_29_code 56 = .ok (.ldc2_w 165, 3) := by decide +kernel
theorem d18_59 : decode jdk_92_method_29_code 59 = .ok (.lxor, 1) := by decide +kernel
theorem d18_60 : decode jdk_92_method_29_code 60 = .ok (.ldc2_w 165, 3) := by decide +kernel
theorem d18_63 : decode jdk_92_method_29_code 63 = .ok (.iload_n 1, 1) := by decide +kernel
theorem d18_64 : decode jdk_92_method_29_code 64 = .ok (.lshl, 1) := by decide +kernel
theorem d18_65 : decode jdk_92_method_29_code 65 = .ok (.land, 1) := by decide +kernel
theorem d18_66 : decode jdk_92_method_29_code 66 = .ok (.lstore_n 3, 1) := by decide +kernel
theorem d18_67 : decode jdk_92_method_29_code 67 = .ok (.lload_n 3, 1) := by decide +kernel
theorem d18_68 : decode jdk_92_method_29_code 68 = .ok (.lconst 0, 1) := by decide +kernel
theorem d18_69 : decode jdk_92_method_29_code 69 = .ok (.lcmp, 1) := by decide +kernel
theorem d18_70 : decode jdk_92_method_29_code 70 = .ok (.ifCond .eq 13, 3) := by decide +kernel
theorem d18_73 : decode jdk_92_method_29_code 73 = .ok (.iload_n 2, 1) := by decide +kernel
theorem d18_74 : decode jdk_92_method_29_code 74 = .ok (.bipush 64, 2) := by decide +kernel
theorem d18_76 : decode jdk_92_method_29_code 76 = .ok (.imul, 1) := by decide +kernel
theorem d18_77 : decode jdk_92_method_29_code 77 = .ok (.lload_n 3, 1) := by decide +kernel
theorem d18_78 : decode jdk_92_method_29_code 78 = .ok (.invokestatic 182, 3) := by decide +kernel
theorem d18_81 : decode jdk_92_method_29_code 81 = .ok (.iadd, 1) := by decide +kernel
theorem d18_82 : decode jdk_92_method_29_code 82 = .ok (.ireturn, 1) := by decide +kernel
theorem d18_83 : decode jdk_92_method_29_code 83 = .ok (.iinc 2 1, 3) := by decide +kernel
theorem d18_86 : decode jdk_92_method_29_code 86 = .ok (.iload_n 2, 1) := by decide +kernel
theorem d18_87 : decode jdk_92_method_29_code 87 = .ok (.aload_n 0, 1) := by decide +kernel
theorem d18_88 : decode jdk_92_method_29_code 88 = .ok (.getfield 7, 3) := by decide +kernel
theorem d18_91 : decode jdk_92_method_29_code 91 = .ok (.if_icmp .ne 11, 3) := by decide +kernel
theorem d18_94 : decode jdk_92_method_29_code 94 = .ok (.aload_n 0, 1) := by decide +kernel
theorem d18_95 : decode jdk_92_method_29_code 95 = .ok (.getfield 7, 3) := by decide +kernel
theorem d18_98 : decode jdk_92_method_29_code 98 = .ok (.bipush 64, 2) := by decide +kernel
theorem d18_100 : decode jdk_92_method_29_code 100 = .ok (.imul, 1) := by decide +kernel
theorem d18_101 : decode jdk_92_method_29_code 101 = .ok (.ireturn, 1) := by decide +kernel
theorem d18_102 : decode jdk_92_method_29_code 102 = .ok (.aload_n 0, 1) := by decide +kernel
theorem d18_103 : decode jdk_92_method_29_code 103 = .ok (.getfield 11, 3) := by decide +kernel
theorem d18_106 : decode jdk_92_method_29_code 106 = .ok (.iload_n 2, 1) := by decide +kernel
theorem d18_107 : decode jdk_92_method_29_code 107 = .ok (.laload, 1) := by decide +kernel
theorem d18_108 : decode jdk_92_method_29_code 108 = .ok (.ldc2_w 165, 3) := by decide +kernel
theorem d18_111 : decode jdk_92_method_29_code 111 = .ok (.lxor, 1) := by decide +kernel
theorem d18_112 : decode jdk_92_method_29_code 112 = .ok (.lstore_n 3, 1) := by decide +kernel
theorem d18_113 : decode jdk_92_method_29_code 113 = .ok (.goto (-46), 3) := by decide +kernel
theorem pd_3 : parseMethodDescriptor "(J)I" = some ⟨[.long], some .int⟩ := by decide +kernel
theorem ef_18 (m : MethodId) (x0 : Addr) (x1 : Int32) : entryFrame m #[(.ref x0), (.int x1)] 5 = mkF m 0 #[.val (.ref x0), .val (.int x1), .unset, .unset, .unset] [] := by first | (simp [entryFrame, mkF, argsToLocals, Value.category]; done) | rfl
def Q18 (Z : State) (bs wa : Addr) (cu r : Int32) (M : Int64) (h0 : Heap) (n0 : Nat) (v : Option Value) (h : Heap) (L : List Loc) : Prop := v = some (.int r) ∧ Fr n0 L ∧ h = h0
set_option maxRecDepth 65536 in
set_option maxHeartbeats 40000000 in
theorem rm18 (l : Launch) (Z : State) (a0 : Array Value) (hw : ∀ d ∈ tables_1, d.before a0 Z = true) (ws : List Jvm.Cond) (bs wa : Addr) (cu r : Int32) (M : Int64) (h0 : Heap) (n0 : Nat) (Z0 : n0 ≤ h0.size) (Vb : own_V Z h0 bs wa 1 M) (hg : own_good M cu r) :
    MetFree l (⟨"java/util/BitSet", "nextClearBit", "(I)I"⟩ : MethodName) (head1 (Jvm.Cond.code (⟨"java/util/BitSet", "nextClearBit", "(I)I"⟩ : MethodName) jdk_92_method_29_code 5 (some .int) :: ws) ({ frames := 2, cells := 0, slots := 0, locals := 30 } : Room)) (fun aa_ U => aa_ = #[(.ref bs), (.int cu)] ∧ Z.Warmed39 U.vm ∧ U.heap = h0) (fun _ _ _ _ _ => True) (fun _ U o U' => ∃ v L, o = .returned v ∧ Q18 Z bs wa cu r M h0 n0 v U'.heap L ∧ FrameEnd U o U' L ({ frames := 2, cells := 0, slots := 0, locals := 30 } : Room).cells ({ frames := 2, cells := 0, slots := 0, locals := 30 } : Room).slots) := by
  refine own_met (Q := fun v h L => Q18 Z bs wa cu r M h0 n0 v h L) (plainFor_of_name pn_0) ?_
  intro p e s m below meth c s₁ hx hby hml hret hlk hown hnm hZ X0 e0
  have N0 := Fr.nil n0
  rw [ef_18 m bs cu]
  show OwnG p e below s _ _ _ (s₁.setTop (mkF m 0 #[.val (.ref bs), .val (.int cu), .unset, .unset, .unset] []))
  refine own_by (fun t kk_ => XS.iloadN X0.here hx rfl (hb hby d18_0) rfl  kk_) ?_
  show OwnG p e below s _ _ _ (s₁.setTop (mkF m 1 #[.val (.ref bs), .val (.int cu), .unset, .unset, .unset] [(.int cu)]))
  refine own_by (fun t kk_ => XS.ifYes X0.here hx rfl (pc0 := 1) (pc' := 31) rfl (hb hby d18_1) rfl ((if0 _ _).trans (flt hg.1).2.1) (by decide) (by decide) kk_) ?_
  show OwnG p e below s _ _ _ (s₁.setTop (mkF m 31 #[.val (.ref bs), .val (.int cu), .unset, .unset, .unset] []))
  refine own_by (fun t kk_ => XS.aloadN X0.here hx rfl (hb hby d18_31) rfl rfl kk_) ?_
  show OwnG p e below s _ _ _ (s₁.setTop (mkF m 32 #[.val (.ref bs), .val (.int cu), .unset, .unset, .unset] [(.ref bs)]))
  obtain ⟨cq1, q1, q1'⟩ := Exa.cell Vb.1
  obtain ⟨_, _, ⟨T1, L1, k1, n1⟩, -, X1, ⟨Lc1, hQ1, l1, y1, z1⟩, st1⟩ := X0.privateBack hx (y := (⟨"java/util/BitSet", "checkInvariants", "()V"⟩ : MethodName)) hown (mvT hZ (hw _ (List.mem_of_getElem? (i := 90) rfl))) (mvT hZ (hw _ (List.mem_of_getElem? (i := 91) rfl))) (own_selp hZ (y := (⟨"java/util/BitSet", "checkInvariants", "()V"⟩ : MethodName)) (hw _ (List.mem_of_getElem? (i := 19) rfl)) (hw _ (List.mem_of_getElem? (i := 92) rfl)) (hw _ (List.mem_of_getElem? (i := 91) rfl)) (by decide)) (Cond.privateMethod_at (mvP hZ (hw _ (List.mem_of_getElem? (i := 92) rfl)) (args := #[]))) (mvT hZ (hw _ (List.mem_of_getElem? (i := 94) rfl))) (by decide) (backOf (W := 0) (rm16 l Z a0 hw [] bs h0 n0 Z0 Vb.2.2.2.2) hZ (hw _ (List.mem_of_getElem? (i := 94) rfl)) (hw _ (List.mem_of_getElem? (i := 20) rfl)) (by decide) (by decide)) (g := (mkF m 32 #[.val (.ref bs), .val (.int cu), .unset, .unset, .unset] [(.ref bs)])) rfl (by rw [hml]; rfl) (Steps.refl _) (a := bs) (by rw [e0]; exact q1) q1' (argsL := []) (rest := []) (lenOf pd_2 rfl) rfl (by show 2 * 0 + _ ≤ _; exact Nat.le_of_eq rfl) (hb hby d18_32) (fun _ _ => ⟨rfl, e0, (by decide : 0 + 0 ≤ _), (by decide : 0 + 0 ≤ _)⟩)
  dsimp only [Pt.U, Pt.locs, Pt.cells, Pt.slots] at X1 l1 y1 z1 st1 hQ1
  subst l1 y1 z1
  refine own_by (fun t kk_ => st1.trans kk_) ?_
  obtain ⟨rfl, N1q, hh1⟩ := hQ1
  have N1 := Fr.app N0 N1q
  have f2 := Vb.1
  rw [← hh1] at f2
  have f3 := Vb.2.1
  rw [← hh1] at f3
  have f4 := Vb.2.2.1
  rw [← hh1] at f4
  have f5 := Vb.2.2.2.1
  rw [← hh1] at f5
  have f6 := Vb.2.2.2.2
  rw [← hh1] at f6
  have sz1 : n0 ≤ T1.heap.size := by rw [hh1]; exact Z0
  show OwnG p e below s _ _ _ (T1.setTop (mkF m 35 #[.val (.ref bs), .val (.int cu), .unset, .unset, .unset] []))
  refine own_by (fun t kk_ => XS.iloadN X1.here hx rfl (hb hby d18_35) rfl  kk_) ?_
  show OwnG p e below s _ _ _ (T1.setTop (mkF m 36 #[.val (.ref bs), .val (.int cu), .unset, .unset, .unset] [(.int cu)]))
  obtain ⟨_, _, ⟨T7, L7, k7, n7⟩, -, X7, ⟨Lc7, hQ7, l7, y7, z7⟩, st7⟩ := Jvm.LawKit.callS X1 hx (y := (⟨"java/util/BitSet", "wordIndex", "(I)I"⟩ : MethodName)) hown (mvT hZ (hw _ (List.mem_of_getElem? (i := 34) rfl))) (mvT hZ (hw _ (List.mem_of_getElem? (i := 35) rfl))) (mvT hZ (hw _ (List.mem_of_getElem? (i := 20) rfl))) (mvT hZ (hw _ (List.mem_of_getElem? (i := 36) rfl))) (by decide) (backOf (W := 0) (rm6 l Z a0 hw [] cu (0 : Int32) T1.heap n0 sz1 hg.2.1) hZ (hw _ (List.mem_of_getElem? (i := 36) rfl)) (hw _ (List.mem_of_getElem? (i := 20) rfl)) (by decide) (by decide)) (g := (mkF m 36 #[.val (.ref bs), .val (.int cu), .unset, .unset, .unset] [(.int cu)])) rfl (by rw [hml]; rfl) (argsL := [(.int cu)]) (rest := []) (lenOf pd_1 rfl) rfl (by show 2 * 0 + _ ≤ _; exact Nat.le_of_eq rfl) (hb hby d18_36) (fun _ _ => ⟨rfl, (rfl : T1.heap = T1.heap), (by decide : 0 + 0 ≤ _), (by decide : 0 + 0 ≤ _)⟩)
  dsimp only [Pt.U, Pt.locs, Pt.cells, Pt.slots] at X7 l7 y7 z7 st7 hQ7
  subst l7 y7 z7
  refine own_by (fun t kk_ => st7 _ kk_) ?_
  obtain ⟨rfl, N7q, hh7⟩ := hQ7
  have N7 := Fr.app N1 N7q
  have f8 := f2
  rw [← hh7] at f8
  have f9 := f3
  rw [← hh7] at f9
  have f10 := f4
  rw [← hh7] at f10
  have f11 := f5
  rw [← hh7] at f11
  have f12 := f6
  rw [← hh7] at f12
  have sz7 : n0 ≤ T7.heap.size := by rw [hh7]; exact sz1
  show OwnG p e below s _ _ _ (T7.setTop (mkF m 39 #[.val (.ref bs), .val (.int cu), .unset, .unset, .unset] [(.int (0 : Int32))]))
  refine own_by (fun t kk_ => XS.istoreN X7.here hx rfl (hb hby d18_39) rfl (l' := #[.val (.ref bs), .val (.int cu), .val (.int (0 : Int32)), .unset, .unset]) rfl kk_) ?_
  show OwnG p e below s _ _ _ (T7.setTop (mkF m 40 #[.val (.ref bs), .val (.int cu), .val (.int (0 : Int32)), .unset, .unset] []))
  refine own_by (fun t kk_ => XS.iloadN X7.here hx rfl (hb hby d18_40) rfl  kk_) ?_
  show OwnG p e below s _ _ _ (T7.setTop (mkF m 41 #[.val (.ref bs), .val (.int cu), .val (.int (0 : Int32)), .unset, .unset] [(.int (0 : Int32))]))
  refine own_by (fun t kk_ => XS.aloadN X7.here hx rfl (hb hby d18_41) rfl rfl kk_) ?_
  show OwnG p e below s _ _ _ (T7.setTop (mkF m 42 #[.val (.ref bs), .val (.int cu), .val (.int (0 : Int32)), .unset, .unset] [(.ref bs), (.int (0 : Int32))]))
  obtain ⟨T13, X13, e13, st13⟩ := getF X7 hx hZ hown (host := "") (Or.inl (hw _ (List.mem_of_getElem? (i := 25) rfl))) Via.refl (rfl : T7.heap = T7.heap) f10 (g := (mkF m 42 #[.val (.ref bs), .val (.int cu), .val (.int (0 : Int32)), .unset, .unset] [(.ref bs), (.int (0 : Int32))])) rfl rfl (hb hby d18_42)
  refine own_by (fun t kk_ => st13 _ kk_) ?_
  show OwnG p e below s _ _ _ (T13.setTop (mkF m 45 #[.val (.ref bs), .val (.int cu), .val (.int (0 : Int32)), .unset, .unset] [(.int (1 : Int32)), (.int (0 : Int32))]))
  refine own_by (fun t kk_ => XS.icmpYes X13.here hx rfl (pc0 := 45) (pc' := 50) rfl (hb hby d18_45) rfl (tlt (by decide)).1 (by decide) (by decide) kk_) ?_
  show OwnG p e below s _ _ _ (T13.setTop (mkF m 50 #[.val (.ref bs), .val (.int cu), .val (.int (0 : Int32)), .unset, .unset] []))
  refine own_by (fun t kk_ => XS.aloadN X13.here hx rfl (hb hby d18_50) rfl rfl kk_) ?_
  show OwnG p e below s _ _ _ (T13.setTop (mkF m 51 #[.val (.ref bs), .val (.int cu), .val (.int (0 : Int32)), .unset, .unset] [(.ref bs)]))
  obtain ⟨T14, X14, e14, st14⟩ := getF X13 hx hZ hown (host := "") (Or.inl (hw _ (List.mem_of_getElem? (i := 38) rfl))) Via.refl e13 f9 (g := (mkF m 51 #[.val (.ref bs), .val (.int cu), .val (.int (0 : Int32)), .unset, .unset] [(.ref bs)])) rfl rfl (hb hby d18_51)
  refine own_by (fun t kk_ => st14 _ kk_) ?_
  show OwnG p e below s _ _ _ (T14.setTop (mkF m 54 #[.val (.ref bs), .val (.int cu), .val (.int (0 : Int32)), .unset, .unset] [(.ref wa)]))
  refine own_by (fun t kk_ => XS.iloadN X14.here hx rfl (hb hby d18_54) rfl  kk_) ?_
  show OwnG p e below s _ _ _ (T14.setTop (mkF m 55 #[.val (.ref bs), .val (.int cu), .val (.int (0 : Int32)), .unset, .unset] [(.int (0 : Int32)), (.ref wa)]))
  refine own_by (fun t kk_ => own_ldJ X14 hx hZ e14 f11 (j := (0 : Int32)) (i := 0) ⟨by decide, rfl, by decide⟩ (v := (.long M)) rfl (g := (mkF m 55 #[.val (.ref bs), .val (.int cu), .val (.int (0 : Int32)), .unset, .unset] [(.int (0 : Int32)), (.ref wa)])) rfl rfl (hb hby d18_55) _ kk_) ?_
  show OwnG p e below s _ _ _ (T14.setTop (mkF m 56 #[.val (.ref bs), .val (.int cu), .val (.int (0 : Int32)), .unset, .unset] [(.long M)]))
  refine own_by (fun t kk_ => X14.ldc2Long hx hown (mvT hZ (hw _ (List.mem_of_getElem? (i := 106) rfl))) (g := (mkF m 56 #[.val (.ref bs), .val (.int cu), .val (.int (0 : Int32)), .unset, .unset] [(.long M)])) rfl (hb hby d18_56) _ kk_) ?_
  show OwnG p e below s _ _ _ (T14.setTop (mkF m 59 #[.val (.ref bs), .val (.int cu), .val (.int (0 : Int32)), .unset, .unset] [(.long (-1 : Int64)), (.long M)]))
  refine own_by (fun t kk_ => XS.lxor X14.here hx rfl (hb hby d18_59) rfl kk_) ?_
  show OwnG p e below s _ _ _ (T14.setTop (mkF m 60 #[.val (.ref bs), .val (.int cu), .val (.int (0 : Int32)), .unset, .unset] [(.long (M ^^^ (-1 : Int64)))]))
  refine own_by (fun t kk_ => X14.ldc2Long hx hown (mvT hZ (hw _ (List.mem_of_getElem? (i := 106) rfl))) (g := (mkF m 60 #[.val (.ref bs), .val (.int cu), .val (.int (0 : Int32)), .unset, .unset] [(.long (M ^^^ (-1 : Int64)))])) rfl (hb hby d18_60) _ kk_) ?_
  show OwnG p e below s _ _ _ (T14.setTop (mkF m 63 #[.val (.ref bs), .val (.int cu), .val (.int (0 : Int32)), .unset, .unset] [(.long (-1 : Int64)), (.long (M ^^^ (-1 : Int64)))]))
  refine own_by (fun t kk_ => XS.iloadN X14.here hx rfl (hb hby d18_63) rfl  kk_) ?_
  show OwnG p e below s _ _ _ (T14.setTop (mkF m 64 #[.val (.ref bs), .val (.int cu), .val (.int (0 : Int32)), .unset, .unset] [(.int cu), (.long (-1 : Int64)), (.long (M ^^^ (-1 : Int64)))]))
  refine own_by (fun t kk_ => XS.lshl X14.here hx rfl (hb hby d18_64) rfl kk_) ?_
  show OwnG p e below s _ _ _ (T14.setTop (mkF m 65 #[.val (.ref bs), .val (.int cu), .val (.int (0 : Int32)), .unset, .unset] [(.long ((-1 : Int64) <<< (cu &&& 0x3f).toInt64)), (.long (M ^^^ (-1 : Int64)))]))
  refine own_by (fun t kk_ => XS.land X14.here hx rfl (hb hby d18_65) rfl kk_) ?_
  show OwnG p e below s _ _ _ (T14.setTop (mkF m 66 #[.val (.ref bs), .val (.int cu), .val (.int (0 : Int32)), .unset, .unset] [(.long ((M ^^^ (-1 : Int64)) &&& ((-1 : Int64) <<< (cu &&& 0x3f).toInt64)))]))
  refine own_by (fun t kk_ => XS.lstoreN X14.here hx rfl (hb hby d18_66) rfl (l' := #[.val (.ref bs), .val (.int cu), .val (.int (0 : Int32)), .val (.long ((M ^^^ (-1 : Int64)) &&& ((-1 : Int64) <<< (cu &&& 0x3f).toInt64))), .second]) rfl kk_) ?_
  show OwnG p e below s _ _ _ (T14.setTop (mkF m 67 #[.val (.ref bs), .val (.int cu), .val (.int (0 : Int32)), .val (.long ((M ^^^ (-1 : Int64)) &&& ((-1 : Int64) <<< (cu &&& 0x3f).toInt64))), .second] []))
  refine own_by (fun t kk_ => XS.lloadN X14.here hx rfl (hb hby d18_67) rfl  kk_) ?_
  show OwnG p e below s _ _ _ (T14.setTop (mkF m 68 #[.val (.ref bs), .val (.int cu), .val (.int (0 : Int32)), .val (.long ((M ^^^ (-1 : Int64)) &&& ((-1 : Int64) <<< (cu &&& 0x3f).toInt64))), .second] [(.long ((M ^^^ (-1 : Int64)) &&& ((-1 : Int64) <<< (cu &&& 0x3f).toInt64)))]))
  refine own_by (fun t kk_ => XS.lconst X14.here hx rfl (hb hby d18_68) kk_) ?_
  show OwnG p e below s _ _ _ (T14.setTop (mkF m 69 #[.val (.ref bs), .val (.int cu), .val (.int (0 : Int32)), .val (.long ((M ^^^ (-1 : Int64)) &&& ((-1 : Int64) <<< (cu &&& 0x3f).toInt64))), .second] [(.long (0 : Int64)), (.long ((M ^^^ (-1 : Int64)) &&& ((-1 : Int64) <<< (cu &&& 0x3f).toInt64)))]))
  refine own_by (fun t kk_ => XS.lcmp X14.here hx rfl (hb hby d18_69) rfl kk_) ?_
  show OwnG p e below s _ _ _ (T14.setTop (mkF m 70 #[.val (.ref bs), .val (.int cu), .val (.int (0 : Int32)), .val (.long ((M ^^^ (-1 : Int64)) &&& ((-1 : Int64) <<< (cu &&& 0x3f).toInt64))), .second] [(.int (lcmpW ((M ^^^ (-1 : Int64)) &&& ((-1 : Int64) <<< (cu &&& 0x3f).toInt64)) (0 : Int64)))]))
  refine own_by (fun t kk_ => XS.ifNo X14.here hx rfl (hb hby d18_70) rfl ((if0 _ _).trans (feq (fun q => hg.2.2.1 ((lw_eq _ _).mp q))).1) kk_) ?_
  show OwnG p e below s _ _ _ (T14.setTop (mkF m 73 #[.val (.ref bs), .val (.int cu), .val (.int (0 : Int32)), .val (.long ((M ^^^ (-1 : Int64)) &&& ((-1 : Int64) <<< (cu &&& 0x3f).toInt64))), .second] []))
  refine own_by (fun t kk_ => XS.iloadN X14.here hx rfl (hb hby d18_73) rfl  kk_) ?_
  show OwnG p e below s _ _ _ (T14.setTop (mkF m 74 #[.val (.ref bs), .val (.int cu), .val (.int (0 : Int32)), .val (.long ((M ^^^ (-1 : Int64)) &&& ((-1 : Int64) <<< (cu &&& 0x3f).toInt64))), .second] [(.int (0 : Int32))]))
  refine own_by (fun t kk_ => XS.bipush X14.here hx rfl (hb hby d18_74) kk_) ?_
  show OwnG p e below s _ _ _ (T14.setTop (mkF m 76 #[.val (.ref bs), .val (.int cu), .val (.int (0 : Int32)), .val (.long ((M ^^^ (-1 : Int64)) &&& ((-1 : Int64) <<< (cu &&& 0x3f).toInt64))), .second] [(.int (64 : Int32)), (.int (0 : Int32))]))
  refine own_by (fun t kk_ => XS.imul X14.here hx rfl (hb hby d18_76) rfl kk_) ?_
  show OwnG p e below s _ _ _ (T14.setTop (mkF m 77 #[.val (.ref bs), .val (.int cu), .val (.int (0 : Int32)), .val (.long ((M ^^^ (-1 : Int64)) &&& ((-1 : Int64) <<< (cu &&& 0x3f).toInt64))), .second] [(.int (0 : Int32))]))
  refine own_by (fun t kk_ => XS.lloadN X14.here hx rfl (hb hby d18_77) rfl  kk_) ?_
  show OwnG p e below s _ _ _ (T14.setTop (mkF m 78 #[.val (.ref bs), .val (.int cu), .val (.int (0 : Int32)), .val (.long ((M ^^^ (-1 : Int64)) &&& ((-1 : Int64) <<< (cu &&& 0x3f).toInt64))), .second] [(.long ((M ^^^ (-1 : Int64)) &&& ((-1 : Int64) <<< (cu &&& 0x3f).toInt64))), (.int (0 : Int32))]))
  obtain ⟨_, _, ⟨T15, L15, k15, n15⟩, -, X15, ⟨Lc15, hQ15, l15, y15, z15⟩, st15⟩ := Jvm.LawKit.callS X14 hx (y := (⟨"java/lang/Long", "numberOfTrailingZeros", "(J)I"⟩ : MethodName)) hown (mvT hZ (hw _ (List.mem_of_getElem? (i := 107) rfl))) (mvT hZ (hw _ (List.mem_of_getElem? (i := 108) rfl))) (mvT hZ (hw _ (List.mem_of_getElem? (i := 109) rfl))) (mvT hZ (hw _ (List.mem_of_getElem? (i := 110) rfl))) (by decide) (backOf (W := 1) (rm19 l Z a0 hw [] (own_x M cu) T7.heap n0 sz7 hg.2.2.2.1 hg.2.2.2.2.1) hZ (hw _ (List.mem_of_getElem? (i := 110) rfl)) (hw _ (List.mem_of_getElem? (i := 109) rfl)) (by decide) (by decide)) (g := (mkF m 78 #[.val (.ref bs), .val (.int cu), .val (.int (0 : Int32)), .val (.long ((M ^^^ (-1 : Int64)) &&& ((-1 : Int64) <<< (cu &&& 0x3f).toInt64))), .second] [(.long ((M ^^^ (-1 : Int64)) &&& ((-1 : Int64) <<< (cu &&& 0x3f).toInt64))), (.int (0 : Int32))])) rfl (by rw [hml]; rfl) (argsL := [(.long ((M ^^^ (-1 : Int64)) &&& ((-1 : Int64) <<< (cu &&& 0x3f).toInt64)))]) (rest := [(.int (0 : Int32))]) (lenOf pd_3 rfl) rfl (by show 2 * 0 + _ ≤ _; exact Nat.le_of_eq rfl) (hb hby d18_78) (fun _ _ => ⟨rfl, e14, (by decide : 0 + 0 ≤ _), (by decide : 0 + 0 ≤ _)⟩)
  dsimp only [Pt.U, Pt.locs, Pt.cells, Pt.slots] at X15 l15 y15 z15 st15 hQ15
  subst l15 y15 z15
  refine own_by (fun t kk_ => st15 _ kk_) ?_
  obtain ⟨rfl, N15q, hh15⟩ := hQ15
  have N15 := Fr.app N7 N15q
  have f16 := f8
  rw [← hh15] at f16
  have f17 := f9
  rw [← hh15] at f17
  have f18 := f10
  rw [← hh15] at f18
  have f19 := f11
  rw [← hh15] at f19
  have f20 := f12
  rw [← hh15] at f20
  have sz15 : n0 ≤ T15.heap.size := by rw [hh15]; exact sz7
  show OwnG p e below s _ _ _ (T15.setTop (mkF m 81 #[.val (.ref bs), .val (.int cu), .val (.int (0 : Int32)), .val (.long ((M ^^^ (-1 : Int64)) &&& ((-1 : Int64) <<< (cu &&& 0x3f).toInt64))), .second] [(.int (own_tz (own_x M cu).toInt32)), (.int (0 : Int32))]))
  refine own_by (fun t kk_ => XS.iadd X15.here hx rfl (hb hby d18_81) rfl kk_) ?_
  show OwnG p e below s _ _ _ (T15.setTop (mkF m 82 #[.val (.ref bs), .val (.int cu), .val (.int (0 : Int32)), .val (.long ((M ^^^ (-1 : Int64)) &&& ((-1 : Int64) <<< (cu &&& 0x3f).toInt64))), .second] [(.int ((0 : Int32) + (own_tz (own_x M cu).toInt32)))]))
  exact own_outI X15 hx hret hlk (hb hby d18_82) (⟨congrArg (fun z => some (Value.int z)) hg.2.2.2.2.2, N15, (Eq.trans (rfl : T15.heap = T15.heap) (hh15.trans (hh7.trans hh1)))⟩) (by decide) (by decide)
theorem d17_0 : decode prog_8_method_3_code 0 = .ok (.aload_n 0, 1) := by decide +kernel
theorem d17_1 : decode prog_8_method_3_code 1 = .ok (.getfield 10, 3) := by decide +kernel
theorem d17_4 : decode prog_8_method_3_code 4 = .ok (.iload_n 1, 1) := by decide +kernel
theorem d17_5 : decode prog_8_method_3_code 5 = .ok (.invokevirtual 20, 3) := by decide +kernel
theorem d17_8 : decode prog_8_method_3_code 8 = .ok (.ireturn, 1) := by decide +kernel
theorem ef_17 (m : MethodId) (x0 : Addr) (x1 : Int32) : entryFrame m #[(.ref x0), (.int x1)] 2 = mkF m 0 #[.val (.ref x0), .val (.int x1)] [] := by first | (simp [entryFrame, mkF, argsToLocals, Value.category]; done) | rfl
def Q17 (Z : State) (fp bs wa : Addr) (cu r : Int32) (M : Int64) (h0 : Heap) (n0 : Nat) (v : Option Value) (h : Heap) (L : List Loc) : Prop := v = some (.int r) ∧ Fr n0 L ∧ h = h0
set_option maxRecDepth 65536 in
set_option maxHeartbeats 40000000 in
theorem rm17 (l : Launch) (Z : State) (a0 : Array Value) (hw : ∀ d ∈ tables_1, d.before a0 Z = true) (ws : List Jvm.Cond) (fp bs wa : Addr) (cu r : Int32) (M : Int64) (h0 : Heap) (n0 : Nat) (Z0 : n0 ≤ h0.size) (Tb : own_T Z h0 fp bs wa 1 M) (hg : own_good M cu r) :
    MetFree l (⟨"com/example/score_on_crawl/scoreoncrawl/engine/FetchedPages", "nextUnfetched", "(I)I"⟩ : MethodName) (head1 (Jvm.Cond.code (⟨"com/example/score_on_crawl/scoreoncrawl/engine/FetchedPages", "nextUnfetched", "(I)I"⟩ : MethodName) prog_8_method_3_code 2 (some .int) :: ws) ({ frames := 3, cells := 0, slots := 0, locals := 46 } : Room)) (fun aa_ U => aa_ = #[(.ref fp), (.int cu)] ∧ Z.Warmed39 U.vm ∧ U.heap = h0) (fun _ _ _ _ _ => True) (fun _ U o U' => ∃ v L, o = .returned v ∧ Q17 Z fp bs wa cu r M h0 n0 v U'.heap L ∧ FrameEnd U o U' L ({ frames := 3, cells := 0, slots := 0, locals := 46 } : Room).cells ({ frames := 3, cells := 0, slots := 0, locals := 46 } : Room).slots) := by
  refine own_met (Q := fun v h L => Q17 Z fp bs wa cu r M h0 n0 v h L) (plainFor_of_name pn_1) ?_
  intro p e s m below meth c s₁ hx hby hml hret hlk hown hnm hZ X0 e0
  have N0 := Fr.nil n0
  rw [ef_17 m fp cu]
  show OwnG p e below s _ _ _ (s₁.setTop (mkF m 0 #[.val (.ref fp), .val (.int cu)] []))
  refine own_by (fun t kk_ => XS.aloadN X0.here hx rfl (hb hby d17_0) rfl rfl kk_) ?_
  show OwnG p e below s _ _ _ (s₁.setTop (mkF m 1 #[.val (.ref fp), .val (.int cu)] [(.ref fp)]))
  obtain ⟨T1, X1, e1, st1⟩ := getF X0 hx hZ hown (host := "") (Or.inl (hw _ (List.mem_of_getElem? (i := 40) rfl))) Via.refl e0 Tb.2.1 (g := (mkF m 1 #[.val (.ref fp), .val (.int cu)] [(.ref fp)])) rfl rfl (hb hby d17_1)
  refine own_by (fun t kk_ => st1 _ kk_) ?_
  show OwnG p e below s _ _ _ (T1.setTop (mkF m 4 #[.val (.ref fp), .val (.int cu)] [(.ref bs)]))
  refine own_by (fun t kk_ => XS.iloadN X1.here hx rfl (hb hby d17_4) rfl  kk_) ?_
  show OwnG p e below s _ _ _ (T1.setTop (mkF m 5 #[.val (.ref fp), .val (.int cu)] [(.int cu), (.ref bs)]))
  obtain ⟨cq2, kq2, q2a, q2b, q2c⟩ := isOf hZ e1 Tb.2.2.1
  obtain ⟨_, _, ⟨T2, L2, k2, n2⟩, -, X2, ⟨Lc2, hQ2, l2, y2, z2⟩, st2⟩ := X1.virtualBack hx (y := (⟨"java/util/BitSet", "nextClearBit", "(I)I"⟩ : MethodName)) (z := (⟨"java/util/BitSet", "nextClearBit", "(I)I"⟩ : MethodName)) hown (mvT hZ (hw _ (List.mem_of_getElem? (i := 101) rfl))) (mvT hZ (hw _ (List.mem_of_getElem? (i := 102) rfl))) (notFace_of_selects (args := #[]) (mvT hZ (hw _ (List.mem_of_getElem? (i := 104) rfl)))) (mvT hZ (hw _ (List.mem_of_getElem? (i := 104) rfl))) (mvT hZ (hw _ (List.mem_of_getElem? (i := 103) rfl))) (by decide) (backOf (W := 0) (rm18 l Z a0 hw [] bs wa cu r M h0 n0 Z0 ⟨Tb.2.2.1, Tb.2.2.2.1, Tb.2.2.2.2.1, Tb.2.2.2.2.2.1, Tb.2.2.2.2.2.2⟩ hg) hZ (hw _ (List.mem_of_getElem? (i := 105) rfl)) (hw _ (List.mem_of_getElem? (i := 20) rfl)) (by decide) (by decide)) q2a q2c (g := (mkF m 5 #[.val (.ref fp), .val (.int cu)] [(.int cu), (.ref bs)])) rfl (by rw [hml]; rfl) (Steps.refl _) (argsL := [(.int cu)]) (rest := []) (lenOf pd_1 rfl) rfl (by show 2 * 0 + _ ≤ _; exact Nat.le_of_eq rfl) (hb hby d17_5) (fun _ _ => ⟨rfl, e1, (by decide : 0 + 0 ≤ _), (by decide : 0 + 0 ≤ _)⟩)
  dsimp only [Pt.U, Pt.locs, Pt.cells, Pt.slots] at X2 l2 y2 z2 st2 hQ2
  subst l2 y2 z2
  refine own_by (fun t kk_ => st2.trans kk_) ?_
  obtain ⟨rfl, N2q, hh2⟩ := hQ2
  have N2 := Fr.app N0 N2q
  have f3 := Tb.1
  rw [← hh2] at f3
  have f4 := Tb.2.1
  rw [← hh2] at f4
  have f5 := Tb.2.2.1
  rw [← hh2] at f5
  have f6 := Tb.2.2.2.1
  rw [← hh2] at f6
  have f7 := Tb.2.2.2.2.1
  rw [← hh2] at f7
  have f8 := Tb.2.2.2.2.2.1
  rw [← hh2] at f8
  have f9 := Tb.2.2.2.2.2.2
  rw [← hh2] at f9
  have sz2 : n0 ≤ T2.heap.size := by rw [hh2]; exact Z0
  show OwnG p e below s _ _ _ (T2.setTop (mkF m 8 #[.val (.ref fp), .val (.int cu)] [(.int r)]))
  exact own_outI X2 hx hret hlk (hb hby d17_8) (⟨rfl, N2, (Eq.trans (rfl : T2.heap = T2.heap) hh2)⟩) (by decide) (by decide)
theorem d11_0 : decode prog_2_method_3_code 0 = .ok (.aload_n 0, 1) := by decide +kernel
theorem d11_1 : decode prog_2_method_3_code 1 = .ok (.getfield 10, 3) := by decide +kernel
theorem d11_4 : decode prog_2_method_3_code 4 = .ok (.iload_n 1, 1) := by decide +kernel
theorem d11_5 : decode prog_2_method_3_code 5 = .ok (.invokevirtual 20, 3) := by decide +kernel
theorem d11_8 : decode prog_2_method_3_code 8 = .ok (.aload_n 0, 1) := by decide +kernel
theorem d11_9 : decode prog_2_method_3_code 9 = .ok (.aload_n 0, 1) := by decide +kernel
theorem d11_10 : decode prog_2_method_3_code 10 = .ok (.getfield 10, 3) := by decide +kernel
theorem d11_13 : decode prog_2_method_3_code 13 = .ok (.aload_n 0, 1) := by decide +kernel
theorem d11_14 : decode prog_2_method_3_code 14 = .ok (.getfield 24, 3) := by decide +kernel
theorem d11_17 : decode prog_2_method_3_code 17 = .ok (.invokevirtual 27, 3) := by decide +kernel
theorem d11_20 : decode prog_2_method_3_code 20 = .ok (.putfield 24, 3) := by decide +kernel
theorem d11_23 : decode prog_2_method_3_code 23 = .ok (.return_, 1) := by decide +kernel
theorem pn_4 : plainName "com/example/score_on_crawl/scoreoncrawl/engine/BreadthFirstSequence" = true := by first | (simp [plainName, overriddenIn]; done) | decide +kernel
theorem ef_11 (m : MethodId) (x0 : Addr) (x1 : Int32) (x2 : Addr) (x3 : Int32) : entryFrame m #[(.ref x0), (.int x1), (.ref x2), (.int x3)] 4 = mkF m 0 #[.val (.ref x0), .val (.int x1), .val (.ref x2), .val (.int x3)] [] := by first | (simp [entryFrame, mkF, argsToLocals, Value.category]; done) | rfl
def Q11 (Z : State) (sq fp bs wa lk : Addr) (pg cu u d r : Int32) (M : Int64) (h0 : Heap) (n0 : Nat) (v : Option Value) (h : Heap) (L : List Loc) : Prop := v = none ∧ Fr n0 L ∧ own_S Z h sq fp bs wa pg r 1 (own_or M d)
set_option maxRecDepth 65536 in
set_option maxHeartbeats 40000000 in
theorem rm11 (l : Launch) (Z : State) (a0 : Array Value) (hw : ∀ d ∈ tables_1, d.before a0 Z = true) (ws : List Jvm.Cond) (sq fp bs wa lk : Addr) (pg cu u d r : Int32) (M : Int64) (h0 : Heap) (n0 : Nat) (Z0 : n0 ≤ h0.size) (Sb : own_S Z h0 sq fp bs wa pg cu u M) (Nn : own_N n0 sq fp bs wa) (hu : u = 0 ∨ u = 1) (hd : ¬ d < 0 ∧ (d >>> ((6 : Int32) &&& 31)) = 0) (hg : own_good (own_or M d) cu r) :
    MetFree l (⟨"com/example/score_on_crawl/scoreoncrawl/engine/BreadthFirstSequence", "fetched", "(I[II)V"⟩ : MethodName) (head1 (Jvm.Cond.code (⟨"com/example/score_on_crawl/scoreoncrawl/engine/BreadthFirstSequence", "fetched", "(I[II)V"⟩ : MethodName) prog_2_method_3_code 4 none :: ws) ({ frames := 4, cells := 0, slots := 0, locals := 60 } : Room)) (fun aa_ U => aa_ = #[(.ref sq), (.int d), (.ref lk), (.int (0 : Int32))] ∧ Z.Warmed39 U.vm ∧ U.heap = h0) (fun _ _ _ _ _ => True) (fun _ U o U' => ∃ v L, o = .returned v ∧ Q11 Z sq fp bs wa lk pg cu u d r M h0 n0 v U'.heap L ∧ FrameEnd U o U' L ({ frames := 4, cells := 0, slots := 0, locals := 60 } : Room).cells ({ frames := 4, cells := 0, slots := 0, locals := 60 } : Room).slots) := by
  refine own_met (Q := fun v h L => Q11 Z sq fp bs wa lk pg cu u d r M h0 n0 v h L) (plainFor_of_name pn_4) ?_
  intro p e s m below meth c s₁ hx hby hml hret hlk hown hnm hZ X0 e0
  have N0 := Fr.nil n0
  rw [ef_11 m sq d lk (0 : Int32)]
  show OwnG p e below s _ _ _ (s₁.setTop (mkF m 0 #[.val (.ref sq), .val (.int d), .val (.ref lk), .val (.int (0 : Int32))] []))
  refine own_by (fun t kk_ => XS.aloadN X0.here hx rfl (hb hby d11_0) rfl rfl kk_) ?_
  show OwnG p e below s _ _ _ (s₁.setTop (mkF m 1 #[.val (.ref sq), .val (.int d), .val (.ref lk), .val (.int (0 : Int32))] [(.ref sq)]))
  obtain ⟨T1, X1, e1, st1⟩ := getF X0 hx hZ hown (host := "") (Or.inl (hw _ (List.mem_of_getElem? (i := 42) rfl))) Via.refl e0 Sb.2.1 (g := (mkF m 1 #[.val (.ref sq), .val (.int d), .val (.ref lk), .val (.int (0 : Int32))] [(.ref sq)])) rfl rfl (hb hby d11_1)
  refine own_by (fun t kk_ => st1 _ kk_) ?_
  show OwnG p e below s _ _ _ (T1.setTop (mkF m 4 #[.val (.ref sq), .val (.int d), .val (.ref lk), .val (.int (0 : Int32))] [(.ref fp)]))
  refine own_by (fun t kk_ => XS.iloadN X1.here hx rfl (hb hby d11_4) rfl  kk_) ?_
  show OwnG p e below s _ _ _ (T1.setTop (mkF m 5 #[.val (.ref sq), .val (.int d), .val (.ref lk), .val (.int (0 : Int32))] [(.int d), (.ref fp)]))
  obtain ⟨cq2, kq2, q2a, q2b, q2c⟩ := isOf hZ e1 Sb.2.2.2.2.1
  obtain ⟨_, _, ⟨T2, L2, k2, n2⟩, -, X2, ⟨Lc2, hQ2, l2, y2, z2⟩, st2⟩ := X1.virtualBack hx (y := (⟨"com/example/score_on_crawl/scoreoncrawl/engine/FetchedPages", "add", "(I)V"⟩ : MethodName)) (z := (⟨"com/example/score_on_crawl/scoreoncrawl/engine/FetchedPages", "add", "(I)V"⟩ : MethodName)) hown (mvT hZ (hw _ (List.mem_of_getElem? (i := 70) rfl))) (mvT hZ (hw _ (List.mem_of_getElem? (i := 71) rfl))) (notFace_of_selects (args := #[]) (mvT hZ (hw _ (List.mem_of_getElem? (i := 73) rfl)))) (mvT hZ (hw _ (List.mem_of_getElem? (i := 73) rfl))) (mvT hZ (hw _ (List.mem_of_getElem? (i := 72) rfl))) (by decide) (backOf (W := 0) (rm12 l Z a0 hw [] fp bs wa u d M h0 n0 Z0 ⟨Sb.2.2.2.2.1, Sb.2.2.2.2.2.1, ⟨Sb.2.2.2.2.2.2.1, Sb.2.2.2.2.2.2.2.1, Sb.2.2.2.2.2.2.2.2.1, Sb.2.2.2.2.2.2.2.2.2.1, Sb.2.2.2.2.2.2.2.2.2.2⟩⟩ hu hd Nn.2.1 Nn.2.2.1 Nn.2.2.2.2.2.2.2.2 Nn.2.2.2.2.2.2.1 Nn.2.2.2.2.2.2.2.1) hZ (hw _ (List.mem_of_getElem? (i := 74) rfl)) (hw _ (List.mem_of_getElem? (i := 13) rfl)) (by decide) (by decide)) q2a q2c (g := (mkF m 5 #[.val (.ref sq), .val (.int d), .val (.ref lk), .val (.int (0 : Int32))] [(.int d), (.ref fp)])) rfl (by rw [hml]; rfl) (Steps.refl _) (argsL := [(.int d)]) (rest := []) (lenOf pd_0 rfl) rfl (by show 2 * 0 + _ ≤ _; exact Nat.le_of_eq rfl) (hb hby d11_5) (fun _ _ => ⟨rfl, e1, (by decide : 0 + 0 ≤ _), (by decide : 0 + 0 ≤ _)⟩)
  dsimp only [Pt.U, Pt.locs, Pt.cells, Pt.slots] at X2 l2 y2 z2 st2 hQ2
  subst l2 y2 z2
  refine own_by (fun t kk_ => st2.trans kk_) ?_
  obtain ⟨rfl, N2q, K2, V2⟩ := hQ2
  have N2 := Fr.app N0 N2q
  have sz2 : n0 ≤ T2.heap.size := Nat.le_trans Z0 K2.1
  have f3 := Exa.keep Sb.1 K2
  have f4 := Fld.keep Sb.2.1 K2 (ninS Nn.2.2.2.2.1 (ninS Nn.2.2.2.2.2.1 nin0))
  have f5 := Fld.keep Sb.2.2.1 K2 (ninS Nn.2.2.2.2.1 (ninS Nn.2.2.2.2.2.1 nin0))
  have f6 := Fld.keep Sb.2.2.2.1 K2 (ninS Nn.2.2.2.2.1 (ninS Nn.2.2.2.2.2.1 nin0))
  have f7 := Exa.keep Sb.2.2.2.2.1 K2
  have f8 := Fld.keep Sb.2.2.2.2.2.1 K2 (ninS Nn.2.2.2.2.2.2.1 (ninS Nn.2.2.2.2.2.2.2.1 nin0))
  have f9 := Exa.keep Sb.2.2.2.2.2.2.1 K2
  show OwnG p e below s _ _ _ (T2.setTop (mkF m 8 #[.val (.ref sq), .val (.int d), .val (.ref lk), .val (.int (0 : Int32))] []))
  refine own_by (fun t kk_ => XS.aloadN X2.here hx rfl (hb hby d11_8) rfl rfl kk_) ?_
  show OwnG p e below s _ _ _ (T2.setTop (mkF m 9 #[.val (.ref sq), .val (.int d), .val (.ref lk), .val (.int (0 : Int32))] [(.ref sq)]))
  refine own_by (fun t kk_ => XS.aloadN X2.here hx rfl (hb hby d11_9) rfl rfl kk_) ?_
  show OwnG p e below s _ _ _ (T2.setTop (mkF m 10 #[.val (.ref sq), .val (.int d), .val (.ref lk), .val (.int (0 : Int32))] [(.ref sq), (.ref sq)]))
  obtain ⟨T11, X11, e11, st11⟩ := getF X2 hx hZ hown (host := "") (Or.inl (hw _ (List.mem_of_getElem? (i := 42) rfl))) Via.refl (rfl : T2.heap = T2.heap) f4 (g := (mkF m 10 #[.val (.ref sq), .val (.int d), .val (.ref lk), .val (.int (0 : Int32))] [(.ref sq), (.ref sq)])) rfl rfl (hb hby d11_10)
  refine own_by (fun t kk_ => st11 _ kk_) ?_
  show OwnG p e below s _ _ _ (T11.setTop (mkF m 13 #[.val (.ref sq), .val (.int d), .val (.ref lk), .val (.int (0 : Int32))] [(.ref fp), (.ref sq)]))
  refine own_by (fun t kk_ => XS.aloadN X11.here hx rfl (hb hby d11_13) rfl rfl kk_) ?_
  show OwnG p e below s _ _ _ (T11.setTop (mkF m 14 #[.val (.ref sq), .val (.int d), .val (.ref lk), .val (.int (0 : Int32))] [(.ref sq), (.ref fp), (.ref sq)]))
  obtain ⟨T12, X12, e12, st12⟩ := getF X11 hx hZ hown (host := "") (Or.inl (hw _ (List.mem_of_getElem? (i := 53) rfl))) Via.refl e11 f6 (g := (mkF m 14 #[.val (.ref sq), .val (.int d), .val (.ref lk), .val (.int (0 : Int32))] [(.ref sq), (.ref fp), (.ref sq)])) rfl rfl (hb hby d11_14)
  refine own_by (fun t kk_ => st12 _ kk_) ?_
  show OwnG p e below s _ _ _ (T12.setTop (mkF m 17 #[.val (.ref sq), .val (.int d), .val (.ref lk), .val (.int (0 : Int32))] [(.int cu), (.ref fp), (.ref sq)]))
  obtain ⟨cq13, kq13, q13a, q13b, q13c⟩ := isOf hZ e12 f7
  obtain ⟨_, _, ⟨T13, L13, k13, n13⟩, -, X13, ⟨Lc13, hQ13, l13, y13, z13⟩, st13⟩ := X12.virtualBack hx (y := (⟨"com/example/score_on_crawl/scoreoncrawl/engine/FetchedPages", "nextUnfetched", "(I)I"⟩ : MethodName)) (z := (⟨"com/example/score_on_crawl/scoreoncrawl/engine/FetchedPages", "nextUnfetched", "(I)I"⟩ : MethodName)) hown (mvT hZ (hw _ (List.mem_of_getElem? (i := 96) rfl))) (mvT hZ (hw _ (List.mem_of_getElem? (i := 97) rfl))) (notFace_of_selects (args := #[]) (mvT hZ (hw _ (List.mem_of_getElem? (i := 99) rfl)))) (mvT hZ (hw _ (List.mem_of_getElem? (i := 99) rfl))) (mvT hZ (hw _ (List.mem_of_getElem? (i := 98) rfl))) (by decide) (backOf (W := 1) (rm17 l Z a0 hw [] fp bs wa cu r (own_or M d) T2.heap n0 sz2 ⟨f7, f8, ⟨V2.1, V2.2.1, V2.2.2.1, V2.2.2.2.1, V2.2.2.2.2⟩⟩ hg) hZ (hw _ (List.mem_of_getElem? (i := 100) rfl)) (hw _ (List.mem_of_getElem? (i := 13) rfl)) (by decide) (by decide)) q13a q13c (g := (mkF m 17 #[.val (.ref sq), .val (.int d), .val (.ref lk), .val (.int (0 : Int32))] [(.int cu), (.ref fp), (.ref sq)])) rfl (by rw [hml]; rfl) (Steps.refl _) (argsL := [(.int cu)]) (rest := [(.ref sq)]) (lenOf pd_1 rfl) rfl (by show 2 * 0 + _ ≤ _; exact Nat.le_of_eq rfl) (hb hby d11_17) (fun _ _ => ⟨rfl, e12, (by decide : 0 + 0 ≤ _), (by decide : 0 + 0 ≤ _)⟩)
  dsimp only [Pt.U, Pt.locs, Pt.cells, Pt.slots] at X13 l13 y13 z13 st13 hQ13
  subst l13 y13 z13
  refine own_by (fun t kk_ => st13.trans kk_) ?_
  obtain ⟨rfl, N13q, hh13⟩ := hQ13
  have N13 := Fr.app N2 N13q
  have f14 := f3
  rw [← hh13] at f14
  have f15 := f4
  rw [← hh13] at f15
  have f16 := f5
  rw [← hh13] at f16
  have f17 := f6
  rw [← hh13] at f17
  have f18 := f7
  rw [← hh13] at f18
  have f19 := f8
  rw [← hh13] at f19
  have f20 := V2.1
  rw [← hh13] at f20
  have f21 := V2.2.1
  rw [← hh13] at f21
  have f22 := V2.2.2.1
  rw [← hh13] at f22
  have f23 := V2.2.2.2.1
  rw [← hh13] at f23
  have f24 := V2.2.2.2.2
  rw [← hh13] at f24
  have sz13 : n0 ≤ T13.heap.size := by rw [hh13]; exact sz2
  show OwnG p e below s _ _ _ (T13.setTop (mkF m 20 #[.val (.ref sq), .val (.int d), .val (.ref lk), .val (.int (0 : Int32))] [(.int r), (.ref sq)]))
  obtain ⟨T25, h25, X25, e25, W25, st25⟩ := putF X13 hx hZ hown (host := "") (Or.inl (hw _ (List.mem_of_getElem? (i := 53) rfl))) Via.refl (rfl : T13.heap = T13.heap) f17 f14 (Or.inl (hw _ (List.mem_of_getElem? (i := 54) rfl))) (hw _ (List.mem_of_getElem? (i := 3) rfl)) (ty := .int) (by decide) rfl rfl (g := (mkF m 20 #[.val (.ref sq), .val (.int d), .val (.ref lk), .val (.int (0 : Int32))] [(.int r), (.ref sq)])) rfl rfl (hb hby d11_20)
  refine own_by (fun t kk_ => st25 _ kk_) ?_
  have f26 := Exa.wr W25 f14
  have f27 := Fld.other W25 f15 (Or.inr (slot_ne (Or.inr (hw _ (List.mem_of_getElem? (i := 43) rfl))) (Or.inl (hw _ (List.mem_of_getElem? (i := 54) rfl))) (by decide) (t := (.object "com/example/score_on_crawl/scoreoncrawl/engine/FetchedPages")) (t' := .int) (by decide) (by decide)))
  have f28 := Fld.other W25 f16 (Or.inr (slot_ne (Or.inl (hw _ (List.mem_of_getElem? (i := 56) rfl))) (Or.inl (hw _ (List.mem_of_getElem? (i := 54) rfl))) (by decide) (t := .int) (t' := .int) (by decide) (by decide)))
  have f30 := Exa.wr W25 f18
  have f31 := Fld.other W25 f19 (Or.inl (Ne.symm Nn.2.2.2.1))
  have f32 := Exa.wr W25 f20
  have f33 := Fld.other W25 f21 (Or.inl (Ne.symm Nn.2.2.2.2.1))
  have f34 := Fld.other W25 f22 (Or.inl (Ne.symm Nn.2.2.2.2.1))
  have f35 := OwnA.other W25 f23 (Ne.symm Nn.2.2.2.2.2.1)
  have f36 := Sta.wr W25 f24
  have f37 := Fld.same W25 f17
  have N25 := Fr.snoc X25 N13 Nn.1
  have sz25 : n0 ≤ h25.size := by rw [W25.size]; exact sz13
  show OwnG p e below s _ _ _ (T25.setTop (mkF m 23 #[.val (.ref sq), .val (.int d), .val (.ref lk), .val (.int (0 : Int32))] []))
  exact own_outV X25 hx hret hlk (hb hby d11_23) (by show _ ∧ _; rw [e25]; exact ⟨rfl, N25, ⟨f26, f27, f28, f37, ⟨f30, f31, ⟨f32, f33, f34, f35, f36⟩⟩⟩⟩) (by decide) (by decide)
theorem d7_0 : decode method_3_code 0 = .ok (.iload_n 3, 1) := by decide +kernel
theorem d7_1 : decode method_3_code 1 = .ok (.ifCond .eq 30, 3) := by decide +kernel
theorem d7_4 : decode method_3_code 4 = .ok (.iload_n 2, 1) := by decide +kernel
theorem d7_5 : decode method_3_code 5 = .ok (.ifCond .eq 11, 3) := by decide +kernel
theorem d7_8 : decode method_3_code 8 = .ok (.aload_n 0, 1) := by decide +kernel
theorem d7_9 : decode method_3_code 9 = .ok (.iconst 1, 1) := by decide +kernel
theorem d7_10 : decode method_3_code 10 = .ok (.aload 4, 2) := by decide +kernel
theorem d7_12 : decode method_3_code 12 = .ok (.iconst 0, 1) := by decide +kernel
theorem d7_13 : decode method_3_code 13 = .ok (.invokevirtual 29, 3) := by decide +kernel
theorem d7_16 : decode method_3_code 16 = .ok (.iload_n 1, 1) := by decide +kernel
theorem d7_17 : decode method_3_code 17 = .ok (.ifCond .eq 38, 3) := by decide +kernel
theorem d7_20 : decode method_3_code 20 = .ok (.aload_n 0, 1) := by decide +kernel
theorem d7_21 : decode method_3_code 21 = .ok (.iconst 0, 1) := by decide +kernel
theorem d7_22 : decode method_3_code 22 = .ok (.aload 4, 2) := by decide +kernel
theorem d7_24 : decode method_3_code 24 = .ok (.iconst 0, 1) := by decide +kernel
theorem d7_25 : decode method_3_code 25 = .ok (.invokevirtual 29, 3) := by decide +kernel
theorem d7_28 : decode method_3_code 28 = .ok (.goto 27, 3) := by decide +kernel
theorem d7_31 : decode method_3_code 31 = .ok (.iload_n 1, 1) := by decide +kernel
theorem d7_32 : decode method_3_code 32 = .ok (.ifCond .eq 11, 3) := by decide +kernel
theorem d7_35 : decode method_3_code 35 = .ok (.aload_n 0, 1) := by decide +kernel
theorem d7_36 : decode method_3_code 36 = .ok (.iconst 0, 1) := by decide +kernel
theorem d7_37 : decode method_3_code 37 = .ok (.aload 4, 2) := by decide +kernel
theorem d7_39 : decode method_3_code 39 = .ok (.iconst 0, 1) := by decide +kernel
theorem d7_40 : decode method_3_code 40 = .ok (.invokevirtual 29, 3) := by decide +kernel
theorem d7_43 : decode method_3_code 43 = .ok (.iload_n 2, 1) := by decide +kernel
theorem d7_44 : decode method_3_code 44 = .ok (.ifCond .eq 11, 3) := by decide +kernel
theorem d7_47 : decode method_3_code 47 = .ok (.aload_n 0, 1) := by decide +kernel
theorem d7_48 : decode method_3_code 48 = .ok (.iconst 1, 1) := by decide +kernel
theorem d7_49 : decode method_3_code 49 = .ok (.aload 4, 2) := by decide +kernel
theorem d7_51 : decode method_3_code 51 = .ok (.iconst 0, 1) := by decide +kernel
theorem d7_52 : decode method_3_code 52 = .ok (.invokevirtual 29, 3) := by decide +kernel
theorem d7_55 : decode method_3_code 55 = .ok (.return_, 1) := by decide +kernel
theorem pn_5 : plainName "com/example/score_on_crawl/scoreoncrawl/engine/BreadthFirstSequenceHasNextPinLaw" = true := by first | (simp [plainName, overriddenIn]; done) | decide +kernel
theorem pd_4 : parseMethodDescriptor "(I[II)V" = some ⟨[.int, (.array .int), .int], none⟩ := by decide +kernel
theorem ef_7 (m : MethodId) (x0 : Addr) (x1 : Int32) (x2 : Int32) (x3 : Int32) (x4 : Addr) : entryFrame m #[(.ref x0), (.int x1), (.int x2), (.int x3), (.ref x4)] 5 = mkF m 0 #[.val (.ref x0), .val (.int x1), .val (.int x2), .val (.int x3), .val (.ref x4)] [] := by first | (simp [entryFrame, mkF, argsToLocals, Value.category]; done) | rfl
def Q7 (Z : State) (sq fp bs wa lk : Addr) (pg cu u fa fb ds : Int32) (M : Int64) (h0 : Heap) (n0 : Nat) (v : Option Value) (h : Heap) (L : List Loc) : Prop := v = none ∧ Fr n0 L ∧ ∃ u', own_m (own_set M fa fb 0) ∧ (u' = 0 ∨ u' = 1) ∧ own_S Z h sq fp bs wa pg (own_c (own_set M fa fb 0)) u' (own_set M fa fb 0)
set_option maxRecDepth 65536 in
set_option maxHeartbeats 40000000 in
theorem rm7 (l : Launch) (Z : State) (a0 : Array Value) (hw : ∀ d ∈ tables_1, d.before a0 Z = true) (ws : List Jvm.Cond) (sq fp bs wa lk : Addr) (pg cu u fa fb ds : Int32) (M : Int64) (h0 : Heap) (n0 : Nat) (Z0 : n0 ≤ h0.size) (Sb : own_S Z h0 sq fp bs wa pg cu u M) (Nn : own_N n0 sq fp bs wa) (hu : u = 0 ∨ u = 1) (hm : own_m M) (hc : cu = own_c M) :
    MetFree l (⟨"com/example/score_on_crawl/scoreoncrawl/engine/BreadthFirstSequenceHasNextPinLaw", "fetchTwo", "(Lcom/example/score_on_crawl/scoreoncrawl/engine/BreadthFirstSequence;ZZZ[I)V"⟩ : MethodName) (head1 (Jvm.Cond.code (⟨"com/example/score_on_crawl/scoreoncrawl/engine/BreadthFirstSequenceHasNextPinLaw", "fetchTwo", "(Lcom/example/score_on_crawl/scoreoncrawl/engine/BreadthFirstSequence;ZZZ[I)V"⟩ : MethodName) method_3_code 5 none :: ws) ({ frames := 5, cells := 0, slots := 0, locals := 75 } : Room)) (fun aa_ U => aa_ = #[(.ref sq), (.int fa), (.int fb), (.int ds), (.ref lk)] ∧ Z.Warmed39 U.vm ∧ U.heap = h0) (fun _ _ _ _ _ => True) (fun _ U o U' => ∃ v L, o = .returned v ∧ Q7 Z sq fp bs wa lk pg cu u fa fb ds M h0 n0 v U'.heap L ∧ FrameEnd U o U' L ({ frames := 5, cells := 0, slots := 0, locals := 75 } : Room).cells ({ frames := 5, cells := 0, slots := 0, locals := 75 } : Room).slots) := by
  refine own_met (Q := fun v h L => Q7 Z sq fp bs wa lk pg cu u fa fb ds M h0 n0 v h L) (plainFor_of_name pn_5) ?_
  intro p e s m below meth c s₁ hx hby hml hret hlk hown hnm hZ X0 e0
  have N0 := Fr.nil n0
  rw [ef_7 m sq fa fb ds lk]
  show OwnG p e below s _ _ _ (s₁.setTop (mkF m 0 #[.val (.ref sq), .val (.int fa), .val (.int fb), .val (.int ds), .val (.ref lk)] []))
  refine own_by (fun t kk_ => XS.iloadN X0.here hx rfl (hb hby d7_0) rfl  kk_) ?_
  show OwnG p e below s _ _ _ (s₁.setTop (mkF m 1 #[.val (.ref sq), .val (.int fa), .val (.int fb), .val (.int ds), .val (.ref lk)] [(.int ds)]))
  by_cases hb1_1 : ds = (0 : Int32)
  · refine own_by (fun t kk_ => XS.ifYes X0.here hx rfl (pc0 := 1) (pc' := 31) rfl (hb hby d7_1) rfl ((if0 _ _).trans (teq hb1_1).1) (by decide) (by decide) kk_) ?_
    show OwnG p e below s _ _ _ (s₁.setTop (mkF m 31 #[.val (.ref sq), .val (.int fa), .val (.int fb), .val (.int ds), .val (.ref lk)] []))
    refine own_by (fun t kk_ => XS.iloadN X0.here hx rfl (hb hby d7_31) rfl  kk_) ?_
    show OwnG p e below s _ _ _ (s₁.setTop (mkF m 32 #[.val (.ref sq), .val (.int fa), .val (.int fb), .val (.int ds), .val (.ref lk)] [(.int fa)]))
    by_cases hb32_2 : fa = (0 : Int32)
    · refine own_by (fun t kk_ => XS.ifYes X0.here hx rfl (pc0 := 32) (pc' := 43) rfl (hb hby d7_32) rfl ((if0 _ _).trans (teq hb32_2).1) (by decide) (by decide) kk_) ?_
      show OwnG p e below s _ _ _ (s₁.setTop (mkF m 43 #[.val (.ref sq), .val (.int fa), .val (.int fb), .val (.int ds), .val (.ref lk)] []))
      refine own_by (fun t kk_ => XS.iloadN X0.here hx rfl (hb hby d7_43) rfl  kk_) ?_
      show OwnG p e below s _ _ _ (s₁.setTop (mkF m 44 #[.val (.ref sq), .val (.int fa), .val (.int fb), .val (.int ds), .val (.ref lk)] [(.int fb)]))
      by_cases hb44_3 : fb = (0 : Int32)
      · refine own_by (fun t kk_ => XS.ifYes X0.here hx rfl (pc0 := 44) (pc' := 55) rfl (hb hby d7_44) rfl ((if0 _ _).trans (teq hb44_3).1) (by decide) (by decide) kk_) ?_
        show OwnG p e below s _ _ _ (s₁.setTop (mkF m 55 #[.val (.ref sq), .val (.int fa), .val (.int fb), .val (.int ds), .val (.ref lk)] []))
        exact own_outV X0 hx hret hlk (hb hby d7_55) (by show _ ∧ _; rw [e0, show own_set M fa fb 0 = M from by simp [own_set, own_o, own_cm _ 2 1, own_cm _ 2 0, own_cm _ 1 0, hb1_1, hb32_2, hb44_3]]; exact ⟨rfl, N0, u, hm, hu, by rw [← hc]; exact ⟨Sb.1, Sb.2.1, Sb.2.2.1, Sb.2.2.2.1, ⟨Sb.2.2.2.2.1, Sb.2.2.2.2.2.1, ⟨Sb.2.2.2.2.2.2.1, Sb.2.2.2.2.2.2.2.1, Sb.2.2.2.2.2.2.2.2.1, Sb.2.2.2.2.2.2.2.2.2.1, Sb.2.2.2.2.2.2.2.2.2.2⟩⟩⟩⟩) (by decide) (by decide)
      · refine own_by (fun t kk_ => XS.ifNo X0.here hx rfl (hb hby d7_44) rfl ((if0 _ _).trans (feq hb44_3).1) kk_) ?_
        show OwnG p e below s _ _ _ (s₁.setTop (mkF m 47 #[.val (.ref sq), .val (.int fa), .val (.int fb), .val (.int ds), .val (.ref lk)] []))
        refine own_by (fun t kk_ => XS.aloadN X0.here hx rfl (hb hby d7_47) rfl rfl kk_) ?_
        show OwnG p e below s _ _ _ (s₁.setTop (mkF m 48 #[.val (.ref sq), .val (.int fa), .val (.int fb), .val (.int ds), .val (.ref lk)] [(.ref sq)]))
        refine own_by (fun t kk_ => XS.iconst X0.here hx rfl (hb hby d7_48) kk_) ?_
        show OwnG p e below s _ _ _ (s₁.setTop (mkF m 49 #[.val (.ref sq), .val (.int fa), .val (.int fb), .val (.int ds), .val (.ref lk)] [(.int (1 : Int32)), (.ref sq)]))
        refine own_by (fun t kk_ => XS.aload X0.here hx rfl (hb hby d7_49) rfl rfl kk_) ?_
        show OwnG p e below s _ _ _ (s₁.setTop (mkF m 51 #[.val (.ref sq), .val (.int fa), .val (.int fb), .val (.int ds), .val (.ref lk)] [(.ref lk), (.int (1 : Int32)), (.ref sq)]))
        refine own_by (fun t kk_ => XS.iconst X0.here hx rfl (hb hby d7_51) kk_) ?_
        show OwnG p e below s _ _ _ (s₁.setTop (mkF m 52 #[.val (.ref sq), .val (.int fa), .val (.int fb), .val (.int ds), .val (.ref lk)] [(.int (0 : Int32)), (.ref lk), (.int (1 : Int32)), (.ref sq)]))
        obtain ⟨cq4, kq4, q4a, q4b, q4c⟩ := isOf hZ e0 Sb.1
        obtain ⟨_, _, ⟨T4, L4, k4, n4⟩, -, X4, ⟨Lc4, hQ4, l4, y4, z4⟩, st4⟩ := X0.virtualBack hx (y := (⟨"com/example/score_on_crawl/scoreoncrawl/engine/BreadthFirstSequence", "fetched", "(I[II)V"⟩ : MethodName)) (z := (⟨"com/example/score_on_crawl/scoreoncrawl/engine/BreadthFirstSequence", "fetched", "(I[II)V"⟩ : MethodName)) hown (mvT hZ (hw _ (List.mem_of_getElem? (i := 65) rfl))) (mvT hZ (hw _ (List.mem_of_getElem? (i := 66) rfl))) (notFace_of_selects (args := #[]) (mvT hZ (hw _ (List.mem_of_getElem? (i := 68) rfl)))) (mvT hZ (hw _ (List.mem_of_getElem? (i := 68) rfl))) (mvT hZ (hw _ (List.mem_of_getElem? (i := 67) rfl))) (by decide) (backOf (W := 0) (rm11 l Z a0 hw [] sq fp bs wa lk pg cu u (1 : Int32) (own_c (own_or M (1 : Int32))) M h0 n0 Z0 ⟨Sb.1, Sb.2.1, Sb.2.2.1, Sb.2.2.2.1, ⟨Sb.2.2.2.2.1, Sb.2.2.2.2.2.1, ⟨Sb.2.2.2.2.2.2.1, Sb.2.2.2.2.2.2.2.1, Sb.2.2.2.2.2.2.2.2.1, Sb.2.2.2.2.2.2.2.2.2.1, Sb.2.2.2.2.2.2.2.2.2.2⟩⟩⟩ Nn hu (own_ds (Or.inr (Or.inl rfl))) (by rw [hc]; exact (own_gd hm (Or.inr (Or.inl rfl))).1)) hZ (hw _ (List.mem_of_getElem? (i := 69) rfl)) (hw _ (List.mem_of_getElem? (i := 4) rfl)) (by decide) (by decide)) q4a q4c (g := (mkF m 52 #[.val (.ref sq), .val (.int fa), .val (.int fb), .val (.int ds), .val (.ref lk)] [(.int (0 : Int32)), (.ref lk), (.int (1 : Int32)), (.ref sq)])) rfl (by rw [hml]; rfl) (Steps.refl _) (argsL := [(.int (1 : Int32)), (.ref lk), (.int (0 : Int32))]) (rest := []) (lenOf pd_4 rfl) rfl (by show 2 * 0 + _ ≤ _; exact Nat.le_of_eq rfl) (hb hby d7_52) (fun _ _ => ⟨rfl, e0, (by decide : 0 + 0 ≤ _), (by decide : 0 + 0 ≤ _)⟩)
        dsimp only [Pt.U, Pt.locs, Pt.cells, Pt.slots] at X4 l4 y4 z4 st4 hQ4
        subst l4 y4 z4
        refine own_by (fun t kk_ => st4.trans kk_) ?_
        obtain ⟨rfl, N4q, S4⟩ := hQ4
        have N4 := Fr.app N0 N4q
        have sz4 : n0 ≤ T4.heap.size := Nat.le_trans Nn.1 (Nat.le_of_lt (Exa.lt S4.1))
        show OwnG p e below s _ _ _ (T4.setTop (mkF m 55 #[.val (.ref sq), .val (.int fa), .val (.int fb), .val (.int ds), .val (.ref lk)] []))
        exact own_outV X4 hx hret hlk (hb hby d7_55) (by show _ ∧ _; rw [(rfl : T4.heap = T4.heap), show own_set M fa fb 0 = (own_or M (1 : Int32)) from by simp [own_set, own_o, own_cm _ 2 1, own_cm _ 2 0, own_cm _ 1 0, hb1_1, hb32_2, hb44_3]]; exact ⟨rfl, N4, (1 : Int32), (own_gd hm (Or.inr (Or.inl rfl))).2, (Or.inr rfl), ⟨S4.1, S4.2.1, S4.2.2.1, S4.2.2.2.1, ⟨S4.2.2.2.2.1, S4.2.2.2.2.2.1, ⟨S4.2.2.2.2.2.2.1, S4.2.2.2.2.2.2.2.1, S4.2.2.2.2.2.2.2.2.1, S4.2.2.2.2.2.2.2.2.2.1, S4.2.2.2.2.2.2.2.2.2.2⟩⟩⟩⟩) (by decide) (by decide)
    · refine own_by (fun t kk_ => XS.ifNo X0.here hx rfl (hb hby d7_32) rfl ((if0 _ _).trans (feq hb32_2).1) kk_) ?_
      show OwnG p e below s _ _ _ (s₁.setTop (mkF m 35 #[.val (.ref sq), .val (.int fa), .val (.int fb), .val (.int ds), .val (.ref lk)] []))
      refine own_by (fun t kk_ => XS.aloadN X0.here hx rfl (hb hby d7_35) rfl rfl kk_) ?_
      show OwnG p e below s _ _ _ (s₁.setTop (mkF m 36 #[.val (.ref sq), .val (.int fa), .val (.int fb), .val (.int ds), .val (.ref lk)] [(.ref sq)]))
      refine own_by (fun t kk_ => XS.iconst X0.here hx rfl (hb hby d7_36) kk_) ?_
      show OwnG p e below s _ _ _ (s₁.setTop (mkF m 37 #[.val (.ref sq), .val (.int fa), .val (.int fb), .val (.int ds), .val (.ref lk)] [(.int (0 : Int32)), (.ref sq)]))
      refine own_by (fun t kk_ => XS.aload X0.here hx rfl (hb hby d7_37) rfl rfl kk_) ?_
      show OwnG p e below s _ _ _ (s₁.setTop (mkF m 39 #[.val (.ref sq), .val (.int fa), .val (.int fb), .val (.int ds), .val (.ref lk)] [(.ref lk), (.int (0 : Int32)), (.ref sq)]))
      refine own_by (fun t kk_ => XS.iconst X0.here hx rfl (hb hby d7_39) kk_) ?_
      show OwnG p e below s _ _ _ (s₁.setTop (mkF m 40 #[.val (.ref sq), .val (.int fa), .val (.int fb), .val (.int ds), .val (.ref lk)] [(.int (0 : Int32)), (.ref lk), (.int (0 : Int32)), (.ref sq)]))
      obtain ⟨cq5, kq5, q5a, q5b, q5c⟩ := isOf hZ e0 Sb.1
      obtain ⟨_, _, ⟨T5, L5, k5, n5⟩, -, X5, ⟨Lc5, hQ5, l5, y5, z5⟩, st5⟩ := X0.virtualBack hx (y := (⟨"com/example/score_on_crawl/scoreoncrawl/engine/BreadthFirstSequence", "fetched", "(I[II)V"⟩ : MethodName)) (z := (⟨"com/example/score_on_crawl/scoreoncrawl/engine/BreadthFirstSequence", "fetched", "(I[II)V"⟩ : MethodName)) hown (mvT hZ (hw _ (List.mem_of_getElem? (i := 65) rfl))) (mvT hZ (hw _ (List.mem_of_getElem? (i := 66) rfl))) (notFace_of_selects (args := #[]) (mvT hZ (hw _ (List.mem_of_getElem? (i := 68) rfl)))) (mvT hZ (hw _ (List.mem_of_getElem? (i := 68) rfl))) (mvT hZ (hw _ (List.mem_of_getElem? (i := 67) rfl))) (by decide) (backOf (W := 0) (rm11 l Z a0 hw [] sq fp bs wa lk pg cu u (0 : Int32) (own_c (own_or M (0 : Int32))) M h0 n0 Z0 ⟨Sb.1, Sb.2.1, Sb.2.2.1, Sb.2.2.2.1, ⟨Sb.2.2.2.2.1, Sb.2.2.2.2.2.1, ⟨Sb.2.2.2.2.2.2.1, Sb.2.2.2.2.2.2.2.1, Sb.2.2.2.2.2.2.2.2.1, Sb.2.2.2.2.2.2.2.2.2.1, Sb.2.2.2.2.2.2.2.2.2.2⟩⟩⟩ Nn hu (own_ds (Or.inl rfl)) (by rw [hc]; exact (own_gd hm (Or.inl rfl)).1)) hZ (hw _ (List.mem_of_getElem? (i := 69) rfl)) (hw _ (List.mem_of_getElem? (i := 4) rfl)) (by decide) (by decide)) q5a q5c (g := (mkF m 40 #[.val (.ref sq), .val (.int fa), .val (.int fb), .val (.int ds), .val (.ref lk)] [(.int (0 : Int32)), (.ref lk), (.int (0 : Int32)), (.ref sq)])) rfl (by rw [hml]; rfl) (Steps.refl _) (argsL := [(.int (0 : Int32)), (.ref lk), (.int (0 : Int32))]) (rest := []) (lenOf pd_4 rfl) rfl (by show 2 * 0 + _ ≤ _; exact Nat.le_of_eq rfl) (hb hby d7_40) (fun _ _ => ⟨rfl, e0, (by decide : 0 + 0 ≤ _), (by decide : 0 + 0 ≤ _)⟩)
      dsimp only [Pt.U, Pt.locs, Pt.cells, Pt.slots] at X5 l5 y5 z5 st5 hQ5
      subst l5 y5 z5
      refine own_by (fun t kk_ => st5.trans kk_) ?_
      obtain ⟨rfl, N5q, S5⟩ := hQ5
      have N5 := Fr.app N0 N5q
      have sz5 : n0 ≤ T5.heap.size := Nat.le_trans Nn.1 (Nat.le_of_lt (Exa.lt S5.1))
      show OwnG p e below s _ _ _ (T5.setTop (mkF m 43 #[.val (.ref sq), .val (.int fa), .val (.int fb), .val (.int ds), .val (.ref lk)] []))
      refine own_by (fun t kk_ => XS.iloadN X5.here hx rfl (hb hby d7_43) rfl  kk_) ?_
      show OwnG p e below s _ _ _ (T5.setTop (mkF m 44 #[.val (.ref sq), .val (.int fa), .val (.int fb), .val (.int ds), .val (.ref lk)] [(.int fb)]))
      by_cases hb44_6 : fb = (0 : Int32)
      · refine own_by (fun t kk_ => XS.ifYes X5.here hx rfl (pc0 := 44) (pc' := 55) rfl (hb hby d7_44) rfl ((if0 _ _).trans (teq hb44_6).1) (by decide) (by decide) kk_) ?_
        show OwnG p e below s _ _ _ (T5.setTop (mkF m 55 #[.val (.ref sq), .val (.int fa), .val (.int fb), .val (.int ds), .val (.ref lk)] []))
        exact own_outV X5 hx hret hlk (hb hby d7_55) (by show _ ∧ _; rw [(rfl : T5.heap = T5.heap), show own_set M fa fb 0 = (own_or M (0 : Int32)) from by simp [own_set, own_o, own_cm _ 2 1, own_cm _ 2 0, own_cm _ 1 0, hb1_1, hb32_2, hb44_6]]; exact ⟨rfl, N5, (1 : Int32), (own_gd hm (Or.inl rfl)).2, (Or.inr rfl), ⟨S5.1, S5.2.1, S5.2.2.1, S5.2.2.2.1, ⟨S5.2.2.2.2.1, S5.2.2.2.2.2.1, ⟨S5.2.2.2.2.2.2.1, S5.2.2.2.2.2.2.2.1, S5.2.2.2.2.2.2.2.2.1, S5.2.2.2.2.2.2.2.2.2.1, S5.2.2.2.2.2.2.2.2.2.2⟩⟩⟩⟩) (by decide) (by decide)
      · refine own_by (fun t kk_ => XS.ifNo X5.here hx rfl (hb hby d7_44) rfl ((if0 _ _).trans (feq hb44_6).1) kk_) ?_
        show OwnG p e below s _ _ _ (T5.setTop (mkF m 47 #[.val (.ref sq), .val (.int fa), .val (.int fb), .val (.int ds), .val (.ref lk)] []))
        refine own_by (fun t kk_ => XS.aloadN X5.here hx rfl (hb hby d7_47) rfl rfl kk_) ?_
        show OwnG p e below s _ _ _ (T5.setTop (mkF m 48 #[.val (.ref sq), .val (.int fa), .val (.int fb), .val (.int ds), .val (.ref lk)] [(.ref sq)]))
        refine own_by (fun t kk_ => XS.iconst X5.here hx rfl (hb hby d7_48) kk_) ?_
        show OwnG p e below s _ _ _ (T5.setTop (mkF m 49 #[.val (.ref sq), .val (.int fa), .val (.int fb), .val (.int ds), .val (.ref lk)] [(.int (1 : Int32)), (.ref sq)]))
        refine own_by (fun t kk_ => XS.aload X5.here hx rfl (hb hby d7_49) rfl rfl kk_) ?_
        show OwnG p e below s _ _ _ (T5.setTop (mkF m 51 #[.val (.ref sq), .val (.int fa), .val (.int fb), .val (.int ds), .val (.ref lk)] [(.ref lk), (.int (1 : Int32)), (.ref sq)]))
        refine own_by (fun t kk_ => XS.iconst X5.here hx rfl (hb hby d7_51) kk_) ?_
        show OwnG p e below s _ _ _ (T5.setTop (mkF m 52 #[.val (.ref sq), .val (.int fa), .val (.int fb), .val (.int ds), .val (.ref lk)] [(.int (0 : Int32)), (.ref lk), (.int (1 : Int32)), (.ref sq)]))
        obtain ⟨cq7, kq7, q7a, q7b, q7c⟩ := isOf hZ (rfl : T5.heap = T5.heap) S5.1
        obtain ⟨_, _, ⟨T7, L7, k7, n7⟩, -, X7, ⟨Lc7, hQ7, l7, y7, z7⟩, st7⟩ := X5.virtualBack hx (y := (⟨"com/example/score_on_crawl/scoreoncrawl/engine/BreadthFirstSequence", "fetched", "(I[II)V"⟩ : MethodName)) (z := (⟨"com/example/score_on_crawl/scoreoncrawl/engine/BreadthFirstSequence", "fetched", "(I[II)V"⟩ : MethodName)) hown (mvT hZ (hw _ (List.mem_of_getElem? (i := 65) rfl))) (mvT hZ (hw _ (List.mem_of_getElem? (i := 66) rfl))) (notFace_of_selects (args := #[]) (mvT hZ (hw _ (List.mem_of_getElem? (i := 68) rfl)))) (mvT hZ (hw _ (List.mem_of_getElem? (i := 68) rfl))) (mvT hZ (hw _ (List.mem_of_getElem? (i := 67) rfl))) (by decide) (backOf (W := 0) (rm11 l Z a0 hw [] sq fp bs wa lk pg (own_c (own_or M (0 : Int32))) (1 : Int32) (1 : Int32) (own_c (own_or (own_or M (0 : Int32)) (1 : Int32))) (own_or M (0 : Int32)) T5.heap n0 sz5 ⟨S5.1, S5.2.1, S5.2.2.1, S5.2.2.2.1, ⟨S5.2.2.2.2.1, S5.2.2.2.2.2.1, ⟨S5.2.2.2.2.2.2.1, S5.2.2.2.2.2.2.2.1, S5.2.2.2.2.2.2.2.2.1, S5.2.2.2.2.2.2.2.2.2.1, S5.2.2.2.2.2.2.2.2.2.2⟩⟩⟩ Nn (Or.inr rfl) (own_ds (Or.inr (Or.inl rfl))) (own_gd (own_gd hm (Or.inl rfl)).2 (Or.inr (Or.inl rfl))).1) hZ (hw _ (List.mem_of_getElem? (i := 69) rfl)) (hw _ (List.mem_of_getElem? (i := 4) rfl)) (by decide) (by decide)) q7a q7c (g := (mkF m 52 #[.val (.ref sq), .val (.int fa), .val (.int fb), .val (.int ds), .val (.ref lk)] [(.int (0 : Int32)), (.ref lk), (.int (1 : Int32)), (.ref sq)])) rfl (by rw [hml]; rfl) (Steps.refl _) (argsL := [(.int (1 : Int32)), (.ref lk), (.int (0 : Int32))]) (rest := []) (lenOf pd_4 rfl) rfl (by show 2 * 0 + _ ≤ _; exact Nat.le_of_eq rfl) (hb hby d7_52) (fun _ _ => ⟨rfl, (rfl : T5.heap = T5.heap), (by decide : 0 + 0 ≤ _), (by decide : 0 + 0 ≤ _)⟩)
        dsimp only [Pt.U, Pt.locs, Pt.cells, Pt.slots] at X7 l7 y7 z7 st7 hQ7
        subst l7 y7 z7
        refine own_by (fun t kk_ => st7.trans kk_) ?_
        obtain ⟨rfl, N7q, S7⟩ := hQ7
        have N7 := Fr.app N5 N7q
        have sz7 : n0 ≤ T7.heap.size := Nat.le_trans Nn.1 (Nat.le_of_lt (Exa.lt S7.1))
        show OwnG p e below s _ _ _ (T7.setTop (mkF m 55 #[.val (.ref sq), .val (.int fa), .val (.int fb), .val (.int ds), .val (.ref lk)] []))
        exact own_outV X7 hx hret hlk (hb hby d7_55) (by show _ ∧ _; rw [(rfl : T7.heap = T7.heap), show own_set M fa fb 0 = (own_or (own_or M (0 : Int32)) (1 : Int32)) from by simp [own_set, own_o, own_cm _ 2 1, own_cm _ 2 0, own_cm _ 1 0, hb1_1, hb32_2, hb44_6]]; exact ⟨rfl, N7, (1 : Int32), (own_gd (own_gd hm (Or.inl rfl)).2 (Or.inr (Or.inl rfl))).2, (Or.inr rfl), ⟨S7.1, S7.2.1, S7.2.2.1, S7.2.2.2.1, ⟨S7.2.2.2.2.1, S7.2.2.2.2.2.1, ⟨S7.2.2.2.2.2.2.1, S7.2.2.2.2.2.2.2.1, S7.2.2.2.2.2.2.2.2.1, S7.2.2.2.2.2.2.2.2.2.1, S7.2.2.2.2.2.2.2.2.2.2⟩⟩⟩⟩) (by decide) (by decide)
  · refine own_by (fun t kk_ => XS.ifNo X0.here hx rfl (hb hby d7_1) rfl ((if0 _ _).trans (feq hb1_1).1) kk_) ?_
    show OwnG p e below s _ _ _ (s₁.setTop (mkF m 4 #[.val (.ref sq), .val (.int fa), .val (.int fb), .val (.int ds), .val (.ref lk)] []))
    refine own_by (fun t kk_ => XS.iloadN X0.here hx rfl (hb hby d7_4) rfl  kk_) ?_
    show OwnG p e below s _ _ _ (s₁.setTop (mkF m 5 #[.val (.ref sq), .val (.int fa), .val (.int fb), .val (.int ds), .val (.ref lk)] [(.int fb)]))
    by_cases hb5_8 : fb = (0 : Int32)
    · refine own_by (fun t kk_ => XS.ifYes X0.here hx rfl (pc0 := 5) (pc' := 16) rfl (hb hby d7_5) rfl ((if0 _ _).trans (teq hb5_8).1) (by decide) (by decide) kk_) ?_
      show OwnG p e below s _ _ _ (s₁.setTop (mkF m 16 #[.val (.ref sq), .val (.int fa), .val (.int fb), .val (.int ds), .val (.ref lk)] []))
      refine own_by (fun t kk_ => XS.iloadN X0.here hx rfl (hb hby d7_16) rfl  kk_) ?_
      show OwnG p e below s _ _ _ (s₁.setTop (mkF m 17 #[.val (.ref sq), .val (.int fa), .val (.int fb), .val (.int ds), .val (.ref lk)] [(.int fa)]))
      by_cases hb17_9 : fa = (0 : Int32)
      · refine own_by (fun t kk_ => XS.ifYes X0.here hx rfl (pc0 := 17) (pc' := 55) rfl (hb hby d7_17) rfl ((if0 _ _).trans (teq hb17_9).1) (by decide) (by decide) kk_) ?_
        show OwnG p e below s _ _ _ (s₁.setTop (mkF m 55 #[.val (.ref sq), .val (.int fa), .val (.int fb), .val (.int ds), .val (.ref lk)] []))
        exact own_outV X0 hx hret hlk (hb hby d7_55) (by show _ ∧ _; rw [e0, show own_set M fa fb 0 = M from by simp [own_set, own_o, own_cm _ 2 1, own_cm _ 2 0, own_cm _ 1 0, hb1_1, hb5_8, hb17_9]]; exact ⟨rfl, N0, u, hm, hu, by rw [← hc]; exact ⟨Sb.1, Sb.2.1, Sb.2.2.1, Sb.2.2.2.1, ⟨Sb.2.2.2.2.1, Sb.2.2.2.2.2.1, ⟨Sb.2.2.2.2.2.2.1, Sb.2.2.2.2.2.2.2.1, Sb.2.2.2.2.2.2.2.2.1, Sb.2.2.2.2.2.2.2.2.2.1, Sb.2.2.2.2.2.2.2.2.2.2⟩⟩⟩⟩) (by decide) (by decide)
      · refine own_by (fun t kk_ => XS.ifNo X0.here hx rfl (hb hby d7_17) rfl ((if0 _ _).trans (feq hb17_9).1) kk_) ?_
        show OwnG p e below s _ _ _ (s₁.setTop (mkF m 20 #[.val (.ref sq), .val (.int fa), .val (.int fb), .val (.int ds), .val (.ref lk)] []))
        refine own_by (fun t kk_ => XS.aloadN X0.here hx rfl (hb hby d7_20) rfl rfl kk_) ?_
        show OwnG p e below s _ _ _ (s₁.setTop (mkF m 21 #[.val (.ref sq), .val (.int fa), .val (.int fb), .val (.int ds), .val (.ref lk)] [(.ref sq)]))
        refine own_by (fun t kk_ => XS.iconst X0.here hx rfl (hb hby d7_21) kk_) ?_
        show OwnG p e below s _ _ _ (s₁.setTop (mkF m 22 #[.val (.ref sq), .val (.int fa), .val (.int fb), .val (.int ds), .val (.ref lk)] [(.int (0 : Int32)), (.ref sq)]))
        refine own_by (fun t kk_ => XS.aload X0.here hx rfl (hb hby d7_22) rfl rfl kk_) ?_
        show OwnG p e below s _ _ _ (s₁.setTop (mkF m 24 #[.val (.ref sq), .val (.int fa), .val (.int fb), .val (.int ds), .val (.ref lk)] [(.ref lk), (.int (0 : Int32)), (.ref sq)]))
        refine own_by (fun t kk_ => XS.iconst X0.here hx rfl (hb hby d7_24) kk_) ?_
        show OwnG p e below s _ _ _ (s₁.setTop (mkF m 25 #[.val (.ref sq), .val (.int fa), .val (.int fb), .val (.int ds), .val (.ref lk)] [(.int (0 : Int32)), (.ref lk), (.int (0 : Int32)), (.ref sq)]))
        obtain ⟨cq10, kq10, q10a, q10b, q10c⟩ := isOf hZ e0 Sb.1
        obtain ⟨_, _, ⟨T10, L10, k10, n10⟩, -, X10, ⟨Lc10, hQ10, l10, y10, z10⟩, st10⟩ := X0.virtualBack hx (y := (⟨"com/example/score_on_crawl/scoreoncrawl/engine/BreadthFirstSequence", "fetched", "(I[II)V"⟩ : MethodName)) (z := (⟨"com/example/score_on_crawl/scoreoncrawl/engine/BreadthFirstSequence", "fetched", "(I[II)V"⟩ : MethodName)) hown (mvT hZ (hw _ (List.mem_of_getElem? (i := 65) rfl))) (mvT hZ (hw _ (List.mem_of_getElem? (i := 66) rfl))) (notFace_of_selects (args := #[]) (mvT hZ (hw _ (List.mem_of_getElem? (i := 68) rfl)))) (mvT hZ (hw _ (List.mem_of_getElem? (i := 68) rfl))) (mvT hZ (hw _ (List.mem_of_getElem? (i := 67) rfl))) (by decide) (backOf (W := 0) (rm11 l Z a0 hw [] sq fp bs wa lk pg cu u (0 : Int32) (own_c (own_or M (0 : Int32))) M h0 n0 Z0 ⟨Sb.1, Sb.2.1, Sb.2.2.1, Sb.2.2.2.1, ⟨Sb.2.2.2.2.1, Sb.2.2.2.2.2.1, ⟨Sb.2.2.2.2.2.2.1, Sb.2.2.2.2.2.2.2.1, Sb.2.2.2.2.2.2.2.2.1, Sb.2.2.2.2.2.2.2.2.2.1, Sb.2.2.2.2.2.2.2.2.2.2⟩⟩⟩ Nn hu (own_ds (Or.inl rfl)) (by rw [hc]; exact (own_gd hm (Or.inl rfl)).1)) hZ (hw _ (List.mem_of_getElem? (i := 69) rfl)) (hw _ (List.mem_of_getElem? (i := 4) rfl)) (by decide) (by decide)) q10a q10c (g := (mkF m 25 #[.val (.ref sq), .val (.int fa), .val (.int fb), .val (.int ds), .val (.ref lk)] [(.int (0 : Int32)), (.ref lk), (.int (0 : Int32)), (.ref sq)])) rfl (by rw [hml]; rfl) (Steps.refl _) (argsL := [(.int (0 : Int32)), (.ref lk), (.int (0 : Int32))]) (rest := []) (lenOf pd_4 rfl) rfl (by show 2 * 0 + _ ≤ _; exact Nat.le_of_eq rfl) (hb hby d7_25) (fun _ _ => ⟨rfl, e0, (by decide : 0 + 0 ≤ _), (by decide : 0 + 0 ≤ _)⟩)
        dsimp only [Pt.U, Pt.locs, Pt.cells, Pt.slots] at X10 l10 y10 z10 st10 hQ10
        subst l10 y10 z10
        refine own_by (fun t kk_ => st10.trans kk_) ?_
        obtain ⟨rfl, N10q, S10⟩ := hQ10
        have N10 := Fr.app N0 N10q
        have sz10 : n0 ≤ T10.heap.size := Nat.le_trans Nn.1 (Nat.le_of_lt (Exa.lt S10.1))
        show OwnG p e below s _ _ _ (T10.setTop (mkF m 28 #[.val (.ref sq), .val (.int fa), .val (.int fb), .val (.int ds), .val (.ref lk)] []))
        refine own_by (fun t kk_ => XS.goto X10.here hx rfl (pc0 := 28) (pc' := 55) rfl (hb hby d7_28) (by decide) (by decide) kk_) ?_
        show OwnG p e below s _ _ _ (T10.setTop (mkF m 55 #[.val (.ref sq), .val (.int fa), .val (.int fb), .val (.int ds), .val (.ref lk)] []))
        exact own_outV X10 hx hret hlk (hb hby d7_55) (by show _ ∧ _; rw [(rfl : T10.heap = T10.heap), show own_set M fa fb 0 = (own_or M (0 : Int32)) from by simp [own_set, own_o, own_cm _ 2 1, own_cm _ 2 0, own_cm _ 1 0, hb1_1, hb5_8, hb17_9]]; exact ⟨rfl, N10, (1 : Int32), (own_gd hm (Or.inl rfl)).2, (Or.inr rfl), ⟨S10.1, S10.2.1, S10.2.2.1, S10.2.2.2.1, ⟨S10.2.2.2.2.1, S10.2.2.2.2.2.1, ⟨S10.2.2.2.2.2.2.1, S10.2.2.2.2.2.2.2.1, S10.2.2.2.2.2.2.2.2.1, S10.2.2.2.2.2.2.2.2.2.1, S10.2.2.2.2.2.2.2.2.2.2⟩⟩⟩⟩) (by decide) (by decide)
    · refine own_by (fun t kk_ => XS.ifNo X0.here hx rfl (hb hby d7_5) rfl ((if0 _ _).trans (feq hb5_8).1) kk_) ?_
      show OwnG p e below s _ _ _ (s₁.setTop (mkF m 8 #[.val (.ref sq), .val (.int fa), .val (.int fb), .val (.int ds), .val (.ref lk)] []))
      refine own_by (fun t kk_ => XS.aloadN X0.here hx rfl (hb hby d7_8) rfl rfl kk_) ?_
      show OwnG p e below s _ _ _ (s₁.setTop (mkF m 9 #[.val (.ref sq), .val (.int fa), .val (.int fb), .val (.int ds), .val (.ref lk)] [(.ref sq)]))
      refine own_by (fun t kk_ => XS.iconst X0.here hx rfl (hb hby d7_9) kk_) ?_
      show OwnG p e below s _ _ _ (s₁.setTop (mkF m 10 #[.val (.ref sq), .val (.int fa), .val (.int fb), .val (.int ds), .val (.ref lk)] [(.int (1 : Int32)), (.ref sq)]))
      refine own_by (fun t kk_ => XS.aload X0.here hx rfl (hb hby d7_10) rfl rfl kk_) ?_
      show OwnG p e below s _ _ _ (s₁.setTop (mkF m 12 #[.val (.ref sq), .val (.int fa), .val (.int fb), .val (.int ds), .val (.ref lk)] [(.ref lk), (.int (1 : Int32)), (.ref sq)]))
      refine own_by (fun t kk_ => XS.iconst X0.here hx rfl (hb hby d7_12) kk_) ?_
      show OwnG p e below s _ _ _ (s₁.setTop (mkF m 13 #[.val (.ref sq), .val (.int fa), .val (.int fb), .val (.int ds), .val (.ref lk)] [(.int (0 : Int32)), (.ref lk), (.int (1 : Int32)), (.ref sq)]))
      obtain ⟨cq11, kq11, q11a, q11b, q11c⟩ := isOf hZ e0 Sb.1
      obtain ⟨_, _, ⟨T11, L11, k11, n11⟩, -, X11, ⟨Lc11, hQ11, l11, y11, z11⟩, st11⟩ := X0.virtualBack hx (y := (⟨"com/example/score_on_crawl/scoreoncrawl/engine/BreadthFirstSequence", "fetched", "(I[II)V"⟩ : MethodName)) (z := (⟨"com/example/score_on_crawl/scoreoncrawl/engine/BreadthFirstSequence", "fetched", "(I[II)V"⟩ : MethodName)) hown (mvT hZ (hw _ (List.mem_of_getElem? (i := 65) rfl))) (mvT hZ (hw _ (List.mem_of_getElem? (i := 66) rfl))) (notFace_of_selects (args := #[]) (mvT hZ (hw _ (List.mem_of_getElem? (i := 68) rfl)))) (mvT hZ (hw _ (List.mem_of_getElem? (i := 68) rfl))) (mvT hZ (hw _ (List.mem_of_getElem? (i := 67) rfl))) (by decide) (backOf (W := 0) (rm11 l Z a0 hw [] sq fp bs wa lk pg cu u (1 : Int32) (own_c (own_or M (1 : Int32))) M h0 n0 Z0 ⟨Sb.1, Sb.2.1, Sb.2.2.1, Sb.2.2.2.1, ⟨Sb.2.2.2.2.1, Sb.2.2.2.2.2.1, ⟨Sb.2.2.2.2.2.2.1, Sb.2.2.2.2.2.2.2.1, Sb.2.2.2.2.2.2.2.2.1, Sb.2.2.2.2.2.2.2.2.2.1, Sb.2.2.2.2.2.2.2.2.2.2⟩⟩⟩ Nn hu (own_ds (Or.inr (Or.inl rfl))) (by rw [hc]; exact (own_gd hm (Or.inr (Or.inl rfl))).1)) hZ (hw _ (List.mem_of_getElem? (i := 69) rfl)) (hw _ (List.mem_of_getElem? (i := 4) rfl)) (by decide) (by decide)) q11a q11c (g := (mkF m 13 #[.val (.ref sq), .val (.int fa), .val (.int fb), .val (.int ds), .val (.ref lk)] [(.int (0 : Int32)), (.ref lk), (.int (1 : Int32)), (.ref sq)])) rfl (by rw [hml]; rfl) (Steps.refl _) (argsL := [(.int (1 : Int32)), (.ref lk), (.int (0 : Int32))]) (rest := []) (lenOf pd_4 rfl) rfl (by show 2 * 0 + _ ≤ _; exact Nat.le_of_eq rfl) (hb hby d7_13) (fun _ _ => ⟨rfl, e0, (by decide : 0 + 0 ≤ _), (by decide : 0 + 0 ≤ _)⟩)
      dsimp only [Pt.U, Pt.locs, Pt.cells, Pt.slots] at X11 l11 y11 z11 st11 hQ11
      subst l11 y11 z11
      refine own_by (fun t kk_ => st11.trans kk_) ?_
      obtain ⟨rfl, N11q, S11⟩ := hQ11
      have N11 := Fr.app N0 N11q
      have sz11 : n0 ≤ T11.heap.size := Nat.le_trans Nn.1 (Nat.le_of_lt (Exa.lt S11.1))
      show OwnG p e below s _ _ _ (T11.setTop (mkF m 16 #[.val (.ref sq), .val (.int fa), .val (.int fb), .val (.int ds), .val (.ref lk)] []))
      refine own_by (fun t kk_ => XS.iloadN X11.here hx rfl (hb hby d7_16) rfl  kk_) ?_
      show OwnG p e below s _ _ _ (T11.setTop (mkF m 17 #[.val (.ref sq), .val (.int fa), .val (.int fb), .val (.int ds), .val (.ref lk)] [(.int fa)]))
      by_cases hb17_12 : fa = (0 : Int32)
      · refine own_by (fun t kk_ => XS.ifYes X11.here hx rfl (pc0 := 17) (pc' := 55) rfl (hb hby d7_17) rfl ((if0 _ _).trans (teq hb17_12).1) (by decide) (by decide) kk_) ?_
        show OwnG p e below s _ _ _ (T11.setTop (mkF m 55 #[.val (.ref sq), .val (.int fa), .val (.int fb), .val (.int ds), .val (.ref lk)] []))
        exact own_outV X11 hx hret hlk (hb hby d7_55) (by show _ ∧ _; rw [(rfl : T11.heap = T11.heap), show own_set M fa fb 0 = (own_or M (1 : Int32)) from by simp [own_set, own_o, own_cm _ 2 1, own_cm _ 2 0, own_cm _ 1 0, hb1_1, hb5_8, hb17_12]]; exact ⟨rfl, N11, (1 : Int32), (own_gd hm (Or.inr (Or.inl rfl))).2, (Or.inr rfl), ⟨S11.1, S11.2.1, S11.2.2.1, S11.2.2.2.1, ⟨S11.2.2.2.2.1, S11.2.2.2.2.2.1, ⟨S11.2.2.2.2.2.2.1, S11.2.2.2.2.2.2.2.1, S11.2.2.2.2.2.2.2.2.1, S11.2.2.2.2.2.2.2.2.2.1, S11.2.2.2.2.2.2.2.2.2.2⟩⟩⟩⟩) (by decide) (by decide)
      · refine own_by (fun t kk_ => XS.ifNo X11.here hx rfl (hb hby d7_17) rfl ((if0 _ _).trans (feq hb17_12).1) kk_) ?_
        show OwnG p e below s _ _ _ (T11.setTop (mkF m 20 #[.val (.ref sq), .val (.int fa), .val (.int fb), .val (.int ds), .val (.ref lk)] []))
        refine own_by (fun t kk_ => XS.aloadN X11.here hx rfl (hb hby d7_20) rfl rfl kk_) ?_
        show OwnG p e below s _ _ _ (T11.setTop (mkF m 21 #[.val (.ref sq), .val (.int fa), .val (.int fb), .val (.int ds), .val (.ref lk)] [(.ref sq)]))
        refine own_by (fun t kk_ => XS.iconst X11.here hx rfl (hb hby d7_21) kk_) ?_
        show OwnG p e below s _ _ _ (T11.setTop (mkF m 22 #[.val (.ref sq), .val (.int fa), .val (.int fb), .val (.int ds), .val (.ref lk)] [(.int (0 : Int32)), (.ref sq)]))
        refine own_by (fun t kk_ => XS.aload X11.here hx rfl (hb hby d7_22) rfl rfl kk_) ?_
        show OwnG p e below s _ _ _ (T11.setTop (mkF m 24 #[.val (.ref sq), .val (.int fa), .val (.int fb), .val (.int ds), .val (.ref lk)] [(.ref lk), (.int (0 : Int32)), (.ref sq)]))
        refine own_by (fun t kk_ => XS.iconst X11.here hx rfl (hb hby d7_24) kk_) ?_
        show OwnG p e below s _ _ _ (T11.setTop (mkF m 25 #[.val (.ref sq), .val (.int fa), .val (.int fb), .val (.int ds), .val (.ref lk)] [(.int (0 : Int32)), (.ref lk), (.int (0 : Int32)), (.ref sq)]))
        obtain ⟨cq13, kq13, q13a, q13b, q13c⟩ := isOf hZ (rfl : T11.heap = T11.heap) S11.1
        obtain ⟨_, _, ⟨T13, L13, k13, n13⟩, -, X13, ⟨Lc13, hQ13, l13, y13, z13⟩, st13⟩ := X11.virtualBack hx (y := (⟨"com/example/score_on_crawl/scoreoncrawl/engine/BreadthFirstSequence", "fetched", "(I[II)V"⟩ : MethodName)) (z := (⟨"com/example/score_on_crawl/scoreoncrawl/engine/BreadthFirstSequence", "fetched", "(I[II)V"⟩ : MethodName)) hown (mvT hZ (hw _ (List.mem_of_getElem? (i := 65) rfl))) (mvT hZ (hw _ (List.mem_of_getElem? (i := 66) rfl))) (notFace_of_selects (args := #[]) (mvT hZ (hw _ (List.mem_of_getElem? (i := 68) rfl)))) (mvT hZ (hw _ (List.mem_of_getElem? (i := 68) rfl))) (mvT hZ (hw _ (List.mem_of_getElem? (i := 67) rfl))) (by decide) (backOf (W := 0) (rm11 l Z a0 hw [] sq fp bs wa lk pg (own_c (own_or M (1 : Int32))) (1 : Int32) (0 : Int32) (own_c (own_or (own_or M (1 : Int32)) (0 : Int32))) (own_or M (1 : Int32)) T11.heap n0 sz11 ⟨S11.1, S11.2.1, S11.2.2.1, S11.2.2.2.1, ⟨S11.2.2.2.2.1, S11.2.2.2.2.2.1, ⟨S11.2.2.2.2.2.2.1, S11.2.2.2.2.2.2.2.1, S11.2.2.2.2.2.2.2.2.1, S11.2.2.2.2.2.2.2.2.2.1, S11.2.2.2.2.2.2.2.2.2.2⟩⟩⟩ Nn (Or.inr rfl) (own_ds (Or.inl rfl)) (own_gd (own_gd hm (Or.inr (Or.inl rfl))).2 (Or.inl rfl)).1) hZ (hw _ (List.mem_of_getElem? (i := 69) rfl)) (hw _ (List.mem_of_getElem? (i := 4) rfl)) (by decide) (by decide)) q13a q13c (g := (mkF m 25 #[.val (.ref sq), .val (.int fa), .val (.int fb), .val (.int ds), .val (.ref lk)] [(.int (0 : Int32)), (.ref lk), (.int (0 : Int32)), (.ref sq)])) rfl (by rw [hml]; rfl) (Steps.refl _) (argsL := [(.int (0 : Int32)), (.ref lk), (.int (0 : Int32))]) (rest := []) (lenOf pd_4 rfl) rfl (by show 2 * 0 + _ ≤ _; exact Nat.le_of_eq rfl) (hb hby d7_25) (fun _ _ => ⟨rfl, (rfl : T11.heap = T11.heap), (by decide : 0 + 0 ≤ _), (by decide : 0 + 0 ≤ _)⟩)
        dsimp only [Pt.U, Pt.locs, Pt.cells, Pt.slots] at X13 l13 y13 z13 st13 hQ13
        subst l13 y13 z13
        refine own_by (fun t kk_ => st13.trans kk_) ?_
        obtain ⟨rfl, N13q, S13⟩ := hQ13
        have N13 := Fr.app N11 N13q
        have sz13 : n0 ≤ T13.heap.size := Nat.le_trans Nn.1 (Nat.le_of_lt (Exa.lt S13.1))
        show OwnG p e below s _ _ _ (T13.setTop (mkF m 28 #[.val (.ref sq), .val (.int fa), .val (.int fb), .val (.int ds), .val (.ref lk)] []))
        refine own_by (fun t kk_ => XS.goto X13.here hx rfl (pc0 := 28) (pc' := 55) rfl (hb hby d7_28) (by decide) (by decide) kk_) ?_
        show OwnG p e below s _ _ _ (T13.setTop (mkF m 55 #[.val (.ref sq), .val (.int fa), .val (.int fb), .val (.int ds), .val (.ref lk)] []))
        exact own_outV X13 hx hret hlk (hb hby d7_55) (by show _ ∧ _; rw [(rfl : T13.heap = T13.heap), show own_set M fa fb 0 = (own_or (own_or M (1 : Int32)) (0 : Int32)) from by simp [own_set, own_o, own_cm _ 2 1, own_cm _ 2 0, own_cm _ 1 0, hb1_1, hb5_8, hb17_12]]; exact ⟨rfl, N13, (1 : Int32), (own_gd (own_gd hm (Or.inr (Or.inl rfl))).2 (Or.inl rfl)).2, (Or.inr rfl), ⟨S13.1, S13.2.1, S13.2.2.1, S13.2.2.2.1, ⟨S13.2.2.2.2.1, S13.2.2.2.2.2.1, ⟨S13.2.2.2.2.2.2.1, S13.2.2.2.2.2.2.2.1, S13.2.2.2.2.2.2.2.2.1, S13.2.2.2.2.2.2.2.2.2.1, S13.2.2.2.2.2.2.2.2.2.2⟩⟩⟩⟩) (by decide) (by decide)
theorem d10_0 : decode method_4_code 0 = .ok (.iload 4, 2) := by decide +kernel
theorem d10_2 : decode method_4_code 2 = .ok (.ifCond .eq 42, 3) := by decide +kernel
theorem d10_5 : decode method_4_code 5 = .ok (.iload_n 3, 1) := by decide +kernel
theorem d10_6 : decode method_4_code 6 = .ok (.ifCond .eq 11, 3) := by decide +kernel
theorem d10_9 : decode method_4_code 9 = .ok (.aload_n 0, 1) := by decide +kernel
theorem d10_10 : decode method_4_code 10 = .ok (.iconst 2, 1) := by decide +kernel
theorem d10_11 : decode method_4_code 11 = .ok (.aload 5, 2) := by decide +kernel
theorem d10_13 : decode method_4_code 13 = .ok (.iconst 0, 1) := by decide +kernel
theorem d10_14 : decode method_4_code 14 = .ok (.invokevirtual 29, 3) := by decide +kernel
theorem d10_17 : decode method_4_code 17 = .ok (.iload_n 2, 1) := by decide +kernel
theorem d10_18 : decode method_4_code 18 = .ok (.ifCond .eq 11, 3) := by decide +kernel
theorem d10_21 : decode method_4_code 21 = .ok (.aload_n 0, 1) := by decide +kernel
theorem d10_22 : decode method_4_code 22 = .ok (.iconst 1, 1) := by decide +kernel
theorem d10_23 : decode method_4_code 23 = .ok (.aload 5, 2) := by decide +kernel
theorem d10_25 : decode method_4_code 25 = .ok (.iconst 0, 1) := by decide +kernel
theorem d10_26 : decode method_4_code 26 = .ok (.invokevirtual 29, 3) := by decide +kernel
theorem d10_29 : decode method_4_code 29 = .ok (.iload_n 1, 1) := by decide +kernel
theorem d10_30 : decode method_4_code 30 = .ok (.ifCond .eq 50, 3) := by decide +kernel
theorem d10_33 : decode method_4_code 33 = .ok (.aload_n 0, 1) := by decide +kernel
theorem d10_34 : decode method_4_code 34 = .ok (.iconst 0, 1) := by decide +kernel
theorem d10_35 : decode method_4_code 35 = .ok (.aload 5, 2) := by decide +kernel
theorem d10_37 : decode method_4_code 37 = .ok (.iconst 0, 1) := by decide +kernel
theorem d10_38 : decode method_4_code 38 = .ok (.invokevirtual 29, 3) := by decide +kernel
theorem d10_41 : decode method_4_code 41 = .ok (.goto 39, 3) := by decide +kernel
theorem d10_44 : decode method_4_code 44 = .ok (.iload_n 1, 1) := by decide +kernel
theorem d10_45 : decode method_4_code 45 = .ok (.ifCond .eq 11, 3) := by decide +kernel
theorem d10_48 : decode method_4_code 48 = .ok (.aload_n 0, 1) := by decide +kernel
theorem d10_49 : decode method_4_code 49 = .ok (.iconst 0, 1) := by decide +kernel
theorem d10_50 : decode method_4_code 50 = .ok (.aload 5, 2) := by decide +kernel
theorem d10_52 : decode method_4_code 52 = .ok (.iconst 0, 1) := by decide +kernel
theorem d10_53 : decode method_4_code 53 = .ok (.invokevirtual 29, 3) := by decide +kernel
theorem d10_56 : decode method_4_code 56 = .ok (.iload_n 2, 1) := by decide +kernel
theorem d10_57 : decode method_4_code 57 = .ok (.ifCond .eq 11, 3) := by decide +kernel
theorem d10_60 : decode method_4_code 60 = .ok (.aload_n 0, 1) := by decide +kernel
theorem d10_61 : decode method_4_code 61 = .ok (.iconst 1, 1) := by decide +kernel
theorem d10_62 : decode method_4_code 62 = .ok (.aload 5, 2) := by decide +kernel
theorem d10_64 : decode method_4_code 64 = .ok (.iconst 0, 1) := by decide +kernel
theorem d10_65 : decode method_4_code 65 = .ok (.invokevirtual 29, 3) := by decide +kernel
theorem d10_68 : decode method_4_code 68 = .ok (.iload_n 3, 1) := by decide +kernel
theorem d10_69 : decode method_4_code 69 = .ok (.ifCond .eq 11, 3) := by decide +kernel
theorem d10_72 : decode method_4_code 72 = .ok (.aload_n 0, 1) := by decide +kernel
theorem d10_73 : decode method_4_code 73 = .ok (.iconst 2, 1) := by decide +kernel
theorem d10_74 : decode method_4_code 74 = .ok (.aload 5, 2) := by decide +kernel
theorem d10_76 : decode method_4_code 76 = .ok (.iconst 0, 1) := by decide +kernel
theorem d10_77 : decode method_4_code 77 = .ok (.invokevirtual 29, 3) := by decide +kernel
theorem d10_80 : decode method_4_code 80 = .ok (.return_, 1) := by decide +kernel
theorem ef_10 (m : MethodId) (x0 : Addr) (x1 : Int32) (x2 : Int32) (x3 : Int32) (x4 : Int32) (x5 : Addr) : entryFrame m #[(.ref x0), (.int x1), (.int x2), (.int x3), (.int x4), (.ref x5)] 6 = mkF m 0 #[.val (.ref x0), .val (.int x1), .val (.int x2), .val (.int x3), .val (.int x4), .val (.ref x5)] [] := by first | (simp [entryFrame, mkF, argsToLocals, Value.category]; done) | rfl
def Q10 (Z : State) (sq fp bs wa lk : Addr) (pg cu u fa fb fc ds : Int32) (M : Int64) (h0 : Heap) (n0 : Nat) (v : Option Value) (h : Heap) (L : List Loc) : Prop := v = none ∧ Fr n0 L ∧ ∃ u', own_m (own_set M fa fb fc) ∧ (u' = 0 ∨ u' = 1) ∧ own_S Z h sq fp bs wa pg (own_c (own_set M fa fb fc)) u' (own_set M fa fb fc)
set_option maxRecDepth 65536 in
set_option maxHeartbeats 40000000 in
theorem rm10 (l : Launch) (Z : State) (a0 : Array Value) (hw : ∀ d ∈ tables_1, d.before a0 Z = true) (ws : List Jvm.Cond) (sq fp bs wa lk : Addr) (pg cu u fa fb fc ds : Int32) (M : Int64) (h0 : Heap) (n0 : Nat) (Z0 : n0 ≤ h0.size) (Sb : own_S Z h0 sq fp bs wa pg cu u M) (Nn : own_N n0 sq fp bs wa) (hu : u = 0 ∨ u = 1) (hm : own_m M) (hc : cu = own_c M) :
    MetFree l (⟨"com/example/score_on_crawl/scoreoncrawl/engine/BreadthFirstSequenceHasNextPinLaw", "fetchThree", "(Lcom/example/score_on_crawl/scoreoncrawl/engine/BreadthFirstSequence;ZZZZ[I)V"⟩ : MethodName) (head1 (Jvm.Cond.code (⟨"com/example/score_on_crawl/scoreoncrawl/engine/BreadthFirstSequenceHasNextPinLaw", "fetchThree", "(Lcom/example/score_on_crawl/scoreoncrawl/engine/BreadthFirstSequence;ZZZZ[I)V"⟩ : MethodName) method_4_code 6 none :: ws) ({ frames := 5, cells := 0, slots := 0, locals := 75 } : Room)) (fun aa_ U => aa_ = #[(.ref sq), (.int fa), (.int fb), (.int fc), (.int ds), (.ref lk)] ∧ Z.Warmed39 U.vm ∧ U.heap = h0) (fun _ _ _ _ _ => True) (fun _ U o U' => ∃ v L, o = .returned v ∧ Q10 Z sq fp bs wa lk pg cu u fa fb fc ds M h0 n0 v U'.heap L ∧ FrameEnd U o U' L ({ frames := 5, cells := 0, slots := 0, locals := 75 } : Room).cells ({ frames := 5, cells := 0, slots := 0, locals := 75 } : Room).slots) := by
  refine own_met (Q := fun v h L => Q10 Z sq fp bs wa lk pg cu u fa fb fc ds M h0 n0 v h L) (plainFor_of_name pn_5) ?_
  intro p e s m below meth c s₁ hx hby hml hret hlk hown hnm hZ X0 e0
  have N0 := Fr.nil n0
  rw [ef_10 m sq fa fb fc ds lk]
  show OwnG p e below s _ _ _ (s₁.setTop (mkF m 0 #[.val (.ref sq), .val (.int fa), .val (.int fb), .val (.int fc), .val (.int ds), .val (.ref lk)] []))
  refine own_by (fun t kk_ => XS.iload X0.here hx rfl (hb hby d10_0) rfl  kk_) ?_
  show OwnG p e below s _ _ _ (s₁.setTop (mkF m 2 #[.val (.ref sq), .val (.int fa), .val (.int fb), .val (.int fc), .val (.int ds), .val (.ref lk)] [(.int ds)]))
  by_cases hb2_1 : ds = (0 : Int32)
  · refine own_by (fun t kk_ => XS.ifYes X0.here hx rfl (pc0 := 2) (pc' := 44) rfl (hb hby d10_2) rfl ((if0 _ _).trans (teq hb2_1).1) (by decide) (by decide) kk_) ?_
    show OwnG p e below s _ _ _ (s₁.setTop (mkF m 44 #[.val (.ref sq), .val (.int fa), .val (.int fb), .val (.int fc), .val (.int ds), .val (.ref lk)] []))
    refine own_by (fun t kk_ => XS.iloadN X0.here hx rfl (hb hby d10_44) rfl  kk_) ?_
    show OwnG p e below s _ _ _ (s₁.setTop (mkF m 45 #[.val (.ref sq), .val (.int fa), .val (.int fb), .val (.int fc), .val (.int ds), .val (.ref lk)] [(.int fa)]))
    by_cases hb45_2 : fa = (0 : Int32)
    · refine own_by (fun t kk_ => XS.ifYes X0.here hx rfl (pc0 := 45) (pc' := 56) rfl (hb hby d10_45) rfl ((if0 _ _).trans (teq hb45_2).1) (by decide) (by decide) kk_) ?_
      show OwnG p e below s _ _ _ (s₁.setTop (mkF m 56 #[.val (.ref sq), .val (.int fa), .val (.int fb), .val (.int fc), .val (.int ds), .val (.ref lk)] []))
      refine own_by (fun t kk_ => XS.iloadN X0.here hx rfl (hb hby d10_56) rfl  kk_) ?_
      show OwnG p e below s _ _ _ (s₁.setTop (mkF m 57 #[.val (.ref sq), .val (.int fa), .val (.int fb), .val (.int fc), .val (.int ds), .val (.ref lk)] [(.int fb)]))
      by_cases hb57_3 : fb = (0 : Int32)
      · refine own_by (fun t kk_ => XS.ifYes X0.here hx rfl (pc0 := 57) (pc' := 68) rfl (hb hby d10_57) rfl ((if0 _ _).trans (teq hb57_3).1) (by decide) (by decide) kk_) ?_
        show OwnG p e below s _ _ _ (s₁.setTop (mkF m 68 #[.val (.ref sq), .val (.int fa), .val (.int fb), .val (.int fc), .val (.int ds), .val (.ref lk)] []))
        refine own_by (fun t kk_ => XS.iloadN X0.here hx rfl (hb hby d10_68) rfl  kk_) ?_
        show OwnG p e below s _ _ _ (s₁.setTop (mkF m 69 #[.val (.ref sq), .val (.int fa), .val (.int fb), .val (.int fc), .val (.int ds), .val (.ref lk)] [(.int fc)]))
        by_cases hb69_4 : fc = (0 : Int32)
        · refine own_by (fun t kk_ => XS.ifYes X0.here hx rfl (pc0 := 69) (pc' := 80) rfl (hb hby d10_69) rfl ((if0 _ _).trans (teq hb69_4).1) (by decide) (by decide) kk_) ?_
          show OwnG p e below s _ _ _ (s₁.setTop (mkF m 80 #[.val (.ref sq), .val (.int fa), .val (.int fb), .val (.int fc), .val (.int ds), .val (.ref lk)] []))
          exact own_outV X0 hx hret hlk (hb hby d10_80) (by show _ ∧ _; rw [e0, show own_set M fa fb fc = M from by simp [own_set, own_o, own_cm _ 2 1, own_cm _ 2 0, own_cm _ 1 0, hb2_1, hb45_2, hb57_3, hb69_4]]; exact ⟨rfl, N0, u, hm, hu, by rw [← hc]; exact ⟨Sb.1, Sb.2.1, Sb.2.2.1, Sb.2.2.2.1, ⟨Sb.2.2.2.2.1, Sb.2.2.2.2.2.1, ⟨Sb.2.2.2.2.2.2.1, Sb.2.2.2.2.2.2.2.1, Sb.2.2.2.2.2.2.2.2.1, Sb.2.2.2.2.2.2.2.2.2.1, Sb.2.2.2.2.2.2.2.2.2.2⟩⟩⟩⟩) (by decide) (by decide)
        · refine own_by (fun t kk_ => XS.ifNo X0.here hx rfl (hb hby d10_69) rfl ((if0 _ _).trans (feq hb69_4).1) kk_) ?_
          show OwnG p e below s _ _ _ (s₁.setTop (mkF m 72 #[.val (.ref sq), .val (.int fa), .val (.int fb), .val (.int fc), .val (.int ds), .val (.ref lk)] []))
          refine own_by (fun t kk_ => XS.aloadN X0.here hx rfl (hb hby d10_72) rfl rfl kk_) ?_
          show OwnG p e below s _ _ _ (s₁.setTop (mkF m 73 #[.val (.ref sq), .val (.int fa), .val (.int fb), .val (.int fc), .val (.int ds), .val (.ref lk)] [(.ref sq)]))
          refine own_by (fun t kk_ => XS.iconst X0.here hx rfl (hb hby d10_73) kk_) ?_
          show OwnG p e below s _ _ _ (s₁.setTop (mkF m 74 #[.val (.ref sq), .val (.int fa), .val (.int fb), .val (.int fc), .val (.int ds), .val (.ref lk)] [(.int (2 : Int32)), (.ref sq)]))
          refine own_by (fun t kk_ => XS.aload X0.here hx rfl (hb hby d10_74) rfl rfl kk_) ?_
          show OwnG p e below s _ _ _ (s₁.setTop (mkF m 76 #[.val (.ref sq), .val (.int fa), .val (.int fb), .val (.int fc), .val (.int ds), .val (.ref lk)] [(.ref lk), (.int (2 : Int32)), (.ref sq)]))
          refine own_by (fun t kk_ => XS.iconst X0.here hx rfl (hb hby d10_76) kk_) ?_
          show OwnG p e below s _ _ _ (s₁.setTop (mkF m 77 #[.val (.ref sq), .val (.int fa), .val (.int fb), .val (.int fc), .val (.int ds), .val (.ref lk)] [(.int (0 : Int32)), (.ref lk), (.int (2 : Int32)), (.ref sq)]))
          obtain ⟨cq5, kq5, q5a, q5b, q5c⟩ := isOf hZ e0 Sb.1
          obtain ⟨_, _, ⟨T5, L5, k5, n5⟩, -, X5, ⟨Lc5, hQ5, l5, y5, z5⟩, st5⟩ := X0.virtualBack hx (y := (⟨"com/example/score_on_crawl/scoreoncrawl/engine/BreadthFirstSequence", "fetched", "(I[II)V"⟩ : MethodName)) (z := (⟨"com/example/score_on_crawl/scoreoncrawl/engine/BreadthFirstSequence", "fetched", "(I[II)V"⟩ : MethodName)) hown (mvT hZ (hw _ (List.mem_of_getElem? (i := 65) rfl))) (mvT hZ (hw _ (List.mem_of_getElem? (i := 66) rfl))) (notFace_of_selects (args := #[]) (mvT hZ (hw _ (List.mem_of_getElem? (i := 68) rfl)))) (mvT hZ (hw _ (List.mem_of_getElem? (i := 68) rfl))) (mvT hZ (hw _ (List.mem_of_getElem? (i := 67) rfl))) (by decide) (backOf (W := 0) (rm11 l Z a0 hw [] sq fp bs wa lk pg cu u (2 : Int32) (own_c (own_or M (2 : Int32))) M h0 n0 Z0 ⟨Sb.1, Sb.2.1, Sb.2.2.1, Sb.2.2.2.1, ⟨Sb.2.2.2.2.1, Sb.2.2.2.2.2.1, ⟨Sb.2.2.2.2.2.2.1, Sb.2.2.2.2.2.2.2.1, Sb.2.2.2.2.2.2.2.2.1, Sb.2.2.2.2.2.2.2.2.2.1, Sb.2.2.2.2.2.2.2.2.2.2⟩⟩⟩ Nn hu (own_ds (Or.inr (Or.inr rfl))) (by rw [hc]; exact (own_gd hm (Or.inr (Or.inr rfl))).1)) hZ (hw _ (List.mem_of_getElem? (i := 69) rfl)) (hw _ (List.mem_of_getElem? (i := 4) rfl)) (by decide) (by decide)) q5a q5c (g := (mkF m 77 #[.val (.ref sq), .val (.int fa), .val (.int fb), .val (.int fc), .val (.int ds), .val (.ref lk)] [(.int (0 : Int32)), (.ref lk), (.int (2 : Int32)), (.ref sq)])) rfl (by rw [hml]; rfl) (Steps.refl _) (argsL := [(.int (2 : Int32)), (.ref lk), (.int (0 : Int32))]) (rest := []) (lenOf pd_4 rfl) rfl (by show 2 * 0 + _ ≤ _; exact Nat.le_of_eq rfl) (hb hby d10_77) (fun _ _ => ⟨rfl, e0, (by decide : 0 + 0 ≤ _), (by decide : 0 + 0 ≤ _)⟩)
          dsimp only [Pt.U, Pt.locs, Pt.cells, Pt.slots] at X5 l5 y5 z5 st5 hQ5
          subst l5 y5 z5
          refine own_by (fun t kk_ => st5.trans kk_) ?_
          obtain ⟨rfl, N5q, S5⟩ := hQ5
          have N5 := Fr.app N0 N5q
          have sz5 : n0 ≤ T5.heap.size := Nat.le_trans Nn.1 (Nat.le_of_lt (Exa.lt S5.1))
          show OwnG p e below s _ _ _ (T5.setTop (mkF m 80 #[.val (.ref sq), .val (.int fa), .val (.int fb), .val (.int fc), .val (.int ds), .val (.ref lk)] []))
          exact own_outV X5 hx hret hlk (hb hby d10_80) (by show _ ∧ _; rw [(rfl : T5.heap = T5.heap), show own_set M fa fb fc = (own_or M (2 : Int32)) from by simp [own_set, own_o, own_cm _ 2 1, own_cm _ 2 0, own_cm _ 1 0, hb2_1, hb45_2, hb57_3, hb69_4]]; exact ⟨rfl, N5, (1 : Int32), (own_gd hm (Or.inr (Or.inr rfl))).2, (Or.inr rfl), ⟨S5.1, S5.2.1, S5.2.2.1, S5.2.2.2.1, ⟨S5.2.2.2.2.1, S5.2.2.2.2.2.1, ⟨S5.2.2.2.2.2.2.1, S5.2.2.2.2.2.2.2.1, S5.2.2.2.2.2.2.2.2.1, S5.2.2.2.2.2.2.2.2.2.1, S5.2.2.2.2.2.2.2.2.2.2⟩⟩⟩⟩) (by decide) (by decide)
      · refine own_by (fun t kk_ => XS.ifNo X0.here hx rfl (hb hby d10_57) rfl ((if0 _ _).trans (feq hb57_3).1) kk_) ?_
        show OwnG p e below s _ _ _ (s₁.setTop (mkF m 60 #[.val (.ref sq), .val (.int fa), .val (.int fb), .val (.int fc), .val (.int ds), .val (.ref lk)] []))
        refine own_by (fun t kk_ => XS.aloadN X0.here hx rfl (hb hby d10_60) rfl rfl kk_) ?_
        show OwnG p e below s _ _ _ (s₁.setTop (mkF m 61 #[.val (.ref sq), .val (.int fa), .val (.int fb), .val (.int fc), .val (.int ds), .val (.ref lk)] [(.ref sq)]))
        refine own_by (fun t kk_ => XS.iconst X0.here hx rfl (hb hby d10_61) kk_) ?_
        show OwnG p e below s _ _ _ (s₁.setTop (mkF m 62 #[.val (.ref sq), .val (.int fa), .val (.int fb), .val (.int fc), .val (.int ds), .val (.ref lk)] [(.int (1 : Int32)), (.ref sq)]))
        refine own_by (fun t kk_ => XS.aload X0.here hx rfl (hb hby d10_62) rfl rfl kk_) ?_
        show OwnG p e below s _ _ _ (s₁.setTop (mkF m 64 #[.val (.ref sq), .val (.int fa), .val (.int fb), .val (.int fc), .val (.int ds), .val (.ref lk)] [(.ref lk), (.int (1 : Int32)), (.ref sq)]))
        refine own_by (fun t kk_ => XS.iconst X0.here hx rfl (hb hby d10_64) kk_) ?_
        show OwnG p e below s _ _ _ (s₁.setTop (mkF m 65 #[.val (.ref sq), .val (.int fa), .val (.int fb), .val (.int fc), .val (.int ds), .val (.ref lk)] [(.int (0 : Int32)), (.ref lk), (.int (1 : Int32)), (.ref sq)]))
        obtain ⟨cq6, kq6, q6a, q6b, q6c⟩ := isOf hZ e0 Sb.1
        obtain ⟨_, _, ⟨T6, L6, k6, n6⟩, -, X6, ⟨Lc6, hQ6, l6, y6, z6⟩, st6⟩ := X0.virtualBack hx (y := (⟨"com/example/score_on_crawl/scoreoncrawl/engine/BreadthFirstSequence", "fetched", "(I[II)V"⟩ : MethodName)) (z := (⟨"com/example/score_on_crawl/scoreoncrawl/engine/BreadthFirstSequence", "fetched", "(I[II)V"⟩ : MethodName)) hown (mvT hZ (hw _ (List.mem_of_getElem? (i := 65) rfl))) (mvT hZ (hw _ (List.mem_of_getElem? (i := 66) rfl))) (notFace_of_selects (args := #[]) (mvT hZ (hw _ (List.mem_of_getElem? (i := 68) rfl)))) (mvT hZ (hw _ (List.mem_of_getElem? (i := 68) rfl))) (mvT hZ (hw _ (List.mem_of_getElem? (i := 67) rfl))) (by decide) (backOf (W := 0) (rm11 l Z a0 hw [] sq fp bs wa lk pg cu u (1 : Int32) (own_c (own_or M (1 : Int32))) M h0 n0 Z0 ⟨Sb.1, Sb.2.1, Sb.2.2.1, Sb.2.2.2.1, ⟨Sb.2.2.2.2.1, Sb.2.2.2.2.2.1, ⟨Sb.2.2.2.2.2.2.1, Sb.2.2.2.2.2.2.2.1, Sb.2.2.2.2.2.2.2.2.1, Sb.2.2.2.2.2.2.2.2.2.1, Sb.2.2.2.2.2.2.2.2.2.2⟩⟩⟩ Nn hu (own_ds (Or.inr (Or.inl rfl))) (by rw [hc]; exact (own_gd hm (Or.inr (Or.inl rfl))).1)) hZ (hw _ (List.mem_of_getElem? (i := 69) rfl)) (hw _ (List.mem_of_getElem? (i := 4) rfl)) (by decide) (by decide)) q6a q6c (g := (mkF m 65 #[.val (.ref sq), .val (.int fa), .val (.int fb), .val (.int fc), .val (.int ds), .val (.ref lk)] [(.int (0 : Int32)), (.ref lk), (.int (1 : Int32)), (.ref sq)])) rfl (by rw [hml]; rfl) (Steps.refl _) (argsL := [(.int (1 : Int32)), (.ref lk), (.int (0 : Int32))]) (rest := []) (lenOf pd_4 rfl) rfl (by show 2 * 0 + _ ≤ _; exact Nat.le_of_eq rfl) (hb hby d10_65) (fun _ _ => ⟨rfl, e0, (by decide : 0 + 0 ≤ _), (by decide : 0 + 0 ≤ _)⟩)
        dsimp only [Pt.U, Pt.locs, Pt.cells, Pt.slots] at X6 l6 y6 z6 st6 hQ6
        subst l6 y6 z6
        refine own_by (fun t kk_ => st6.trans kk_) ?_
        obtain ⟨rfl, N6q, S6⟩ := hQ6
        have N6 := Fr.app N0 N6q
        have sz6 : n0 ≤ T6.heap.size := Nat.le_trans Nn.1 (Nat.le_of_lt (Exa.lt S6.1))
        show OwnG p e below s _ _ _ (T6.setTop (mkF m 68 #[.val (.ref sq), .val (.int fa), .val (.int fb), .val (.int fc), .val (.int ds), .val (.ref lk)] []))
        refine own_by (fun t kk_ => XS.iloadN X6.here hx rfl (hb hby d10_68) rfl  kk_) ?_
        show OwnG p e below s _ _ _ (T6.setTop (mkF m 69 #[.val (.ref sq), .val (.int fa), .val (.int fb), .val (.int fc), .val (.int ds), .val (.ref lk)] [(.int fc)]))
        by_cases hb69_7 : fc = (0 : Int32)
        · refine own_by (fun t kk_ => XS.ifYes X6.here hx rfl (pc0 := 69) (pc' := 80) rfl (hb hby d10_69) rfl ((if0 _ _).trans (teq hb69_7).1) (by decide) (by decide) kk_) ?_
          show OwnG p e below s _ _ _ (T6.setTop (mkF m 80 #[.val (.ref sq), .val (.int fa), .val (.int fb), .val (.int fc), .val (.int ds), .val (.ref lk)] []))
          exact own_outV X6 hx hret hlk (hb hby d10_80) (by show _ ∧ _; rw [(rfl : T6.heap = T6.heap), show own_set M fa fb fc = (own_or M (1 : Int32)) from by simp [own_set, own_o, own_cm _ 2 1, own_cm _ 2 0, own_cm _ 1 0, hb2_1, hb45_2, hb57_3, hb69_7]]; exact ⟨rfl, N6, (1 : Int32), (own_gd hm (Or.inr (Or.inl rfl))).2, (Or.inr rfl), ⟨S6.1, S6.2.1, S6.2.2.1, S6.2.2.2.1, ⟨S6.2.2.2.2.1, S6.2.2.2.2.2.1, ⟨S6.2.2.2.2.2.2.1, S6.2.2.2.2.2.2.2.1, S6.2.2.2.2.2.2.2.2.1, S6.2.2.2.2.2.2.2.2.2.1, S6.2.2.2.2.2.2.2.2.2.2⟩⟩⟩⟩) (by decide) (by decide)
        · refine own_by (fun t kk_ => XS.ifNo X6.here hx rfl (hb hby d10_69) rfl ((if0 _ _).trans (feq hb69_7).1) kk_) ?_
          show OwnG p e below s _ _ _ (T6.setTop (mkF m 72 #[.val (.ref sq), .val (.int fa), .val (.int fb), .val (.int fc), .val (.int ds), .val (.ref lk)] []))
          refine own_by (fun t kk_ => XS.aloadN X6.here hx rfl (hb hby d10_72) rfl rfl kk_) ?_
          show OwnG p e below s _ _ _ (T6.setTop (mkF m 73 #[.val (.ref sq), .val (.int fa), .val (.int fb), .val (.int fc), .val (.int ds), .val (.ref lk)] [(.ref sq)]))
          refine own_by (fun t kk_ => XS.iconst X6.here hx rfl (hb hby d10_73) kk_) ?_
          show OwnG p e below s _ _ _ (T6.setTop (mkF m 74 #[.val (.ref sq), .val (.int fa), .val (.int fb), .val (.int fc), .val (.int ds), .val (.ref lk)] [(.int (2 : Int32)), (.ref sq)]))
          refine own_by (fun t kk_ => XS.aload X6.here hx rfl (hb hby d10_74) rfl rfl kk_) ?_
          show OwnG p e below s _ _ _ (T6.setTop (mkF m 76 #[.val (.ref sq), .val (.int fa), .val (.int fb), .val (.int fc), .val (.int ds), .val (.ref lk)] [(.ref lk), (.int (2 : Int32)), (.ref sq)]))
          refine own_by (fun t kk_ => XS.iconst X6.here hx rfl (hb hby d10_76) kk_) ?_
          show OwnG p e below s _ _ _ (T6.setTop (mkF m 77 #[.val (.ref sq), .val (.int fa), .val (.int fb), .val (.int fc), .val (.int ds), .val (.ref lk)] [(.int (0 : Int32)), (.ref lk), (.int (2 : Int32)), (.ref sq)]))
          obtain ⟨cq8, kq8, q8a, q8b, q8c⟩ := isOf hZ (rfl : T6.heap = T6.heap) S6.1
          obtain ⟨_, _, ⟨T8, L8, k8, n8⟩, -, X8, ⟨Lc8, hQ8, l8, y8, z8⟩, st8⟩ := X6.virtualBack hx (y := (⟨"com/example/score_on_crawl/scoreoncrawl/engine/BreadthFirstSequence", "fetched", "(I[II)V"⟩ : MethodName)) (z := (⟨"com/example/score_on_crawl/scoreoncrawl/engine/BreadthFirstSequence", "fetched", "(I[II)V"⟩ : MethodName)) hown (mvT hZ (hw _ (List.mem_of_getElem? (i := 65) rfl))) (mvT hZ (hw _ (List.mem_of_getElem? (i := 66) rfl))) (notFace_of_selects (args := #[]) (mvT hZ (hw _ (List.mem_of_getElem? (i := 68) rfl)))) (mvT hZ (hw _ (List.mem_of_getElem? (i := 68) rfl))) (mvT hZ (hw _ (List.mem_of_getElem? (i := 67) rfl))) (by decide) (backOf (W := 0) (rm11 l Z a0 hw [] sq fp bs wa lk pg (own_c (own_or M (1 : Int32))) (1 : Int32) (2 : Int32) (own_c (own_or (own_or M (1 : Int32)) (2 : Int32))) (own_or M (1 : Int32)) T6.heap n0 sz6 ⟨S6.1, S6.2.1, S6.2.2.1, S6.2.2.2.1, ⟨S6.2.2.2.2.1, S6.2.2.2.2.2.1, ⟨S6.2.2.2.2.2.2.1, S6.2.2.2.2.2.2.2.1, S6.2.2.2.2.2.2.2.2.1, S6.2.2.2.2.2.2.2.2.2.1, S6.2.2.2.2.2.2.2.2.2.2⟩⟩⟩ Nn (Or.inr rfl) (own_ds (Or.inr (Or.inr rfl))) (own_gd (own_gd hm (Or.inr (Or.inl rfl))).2 (Or.inr (Or.inr rfl))).1) hZ (hw _ (List.mem_of_getElem? (i := 69) rfl)) (hw _ (List.mem_of_getElem? (i := 4) rfl)) (by decide) (by decide)) q8a q8c (g := (mkF m 77 #[.val (.ref sq), .val (.int fa), .val (.int fb), .val (.int fc), .val (.int ds), .val (.ref lk)] [(.int (0 : Int32)), (.ref lk), (.int (2 : Int32)), (.ref sq)])) rfl (by rw [hml]; rfl) (Steps.refl _) (argsL := [(.int (2 : Int32)), (.ref lk), (.int (0 : Int32))]) (rest := []) (lenOf pd_4 rfl) rfl (by show 2 * 0 + _ ≤ _; exact Nat.le_of_eq rfl) (hb hby d10_77) (fun _ _ => ⟨rfl, (rfl : T6.heap = T6.heap), (by decide : 0 + 0 ≤ _), (by decide : 0 + 0 ≤ _)⟩)
          dsimp only [Pt.U, Pt.locs, Pt.cells, Pt.slots] at X8 l8 y8 z8 st8 hQ8
          subst l8 y8 z8
          refine own_by (fun t kk_ => st8.trans kk_) ?_
          obtain ⟨rfl, N8q, S8⟩ := hQ8
          have N8 := Fr.app N6 N8q
          have sz8 : n0 ≤ T8.heap.size := Nat.le_trans Nn.1 (Nat.le_of_lt (Exa.lt S8.1))
          show OwnG p e below s _ _ _ (T8.setTop (mkF m 80 #[.val (.ref sq), .val (.int fa), .val (.int fb), .val (.int fc), .val (.int ds), .val (.ref lk)] []))
          exact own_outV X8 hx hret hlk (hb hby d10_80) (by show _ ∧ _; rw [(rfl : T8.heap = T8.heap), show own_set M fa fb fc = (own_or (own_or M (1 : Int32)) (2 : Int32)) from by simp [own_set, own_o, own_cm _ 2 1, own_cm _ 2 0, own_cm _ 1 0, hb2_1, hb45_2, hb57_3, hb69_7]]; exact ⟨rfl, N8, (1 : Int32), (own_gd (own_gd hm (Or.inr (Or.inl rfl))).2 (Or.inr (Or.inr rfl))).2, (Or.inr rfl), ⟨S8.1, S8.2.1, S8.2.2.1, S8.2.2.2.1, ⟨S8.2.2.2.2.1, S8.2.2.2.2.2.1, ⟨S8.2.2.2.2.2.2.1, S8.2.2.2.2.2.2.2.1, S8.2.2.2.2.2.2.2.2.1, S8.2.2.2.2.2.2.2.2.2.1, S8.2.2.2.2.2.2.2.2.2.2⟩⟩⟩⟩) (by decide) (by decide)
    · refine own_by (fun t kk_ => XS.ifNo X0.here hx rfl (hb hby d10_45) rfl ((if0 _ _).trans (feq hb45_2).1) kk_) ?_
      show OwnG p e below s _ _ _ (s₁.setTop (mkF m 48 #[.val (.ref sq), .val (.int fa), .val (.int fb), .val (.int fc), .val (.int ds), .val (.ref lk)] []))
      refine own_by (fun t kk_ => XS.aloadN X0.here hx rfl (hb hby d10_48) rfl rfl kk_) ?_
      show OwnG p e below s _ _ _ (s₁.setTop (mkF m 49 #[.val (.ref sq), .val (.int fa), .val (.int fb), .val (.int fc), .val (.int ds), .val (.ref lk)] [(.ref sq)]))
      refine own_by (fun t kk_ => XS.iconst X0.here hx rfl (hb hby d10_49) kk_) ?_
      show OwnG p e below s _ _ _ (s₁.setTop (mkF m 50 #[.val (.ref sq), .val (.int fa), .val (.int fb), .val (.int fc), .val (.int ds), .val (.ref lk)] [(.int (0 : Int32)), (.ref sq)]))
      refine own_by (fun t kk_ => XS.aload X0.here hx rfl (hb hby d10_50) rfl rfl kk_) ?_
      show OwnG p e below s _ _ _ (s₁.setTop (mkF m 52 #[.val (.ref sq), .val (.int fa), .val (.int fb), .val (.int fc), .val (.int ds), .val (.ref lk)] [(.ref lk), (.int (0 : Int32)), (.ref sq)]))
      refine own_by (fun t kk_ => XS.iconst X0.here hx rfl (hb hby d10_52) kk_) ?_
      show OwnG p e below s _ _ _ (s₁.setTop (mkF m 53 #[.val (.ref sq), .val (.int fa), .val (.int fb), .val (.int fc), .val (.int ds), .val (.ref lk)] [(.int (0 : Int32)), (.ref lk), (.int (0 : Int32)), (.ref sq)]))
      obtain ⟨cq9, kq9, q9a, q9b, q9c⟩ := isOf hZ e0 Sb.1
      obtain ⟨_, _, ⟨T9, L9, k9, n9⟩, -, X9, ⟨Lc9, hQ9, l9, y9, z9⟩, st9⟩ := X0.virtualBack hx (y := (⟨"com/example/score_on_crawl/scoreoncrawl/engine/BreadthFirstSequence", "fetched", "(I[II)V"⟩ : MethodName)) (z := (⟨"com/example/score_on_crawl/scoreoncrawl/engine/BreadthFirstSequence", "fetched", "(I[II)V"⟩ : MethodName)) hown (mvT hZ (hw _ (List.mem_of_getElem? (i := 65) rfl))) (mvT hZ (hw _ (List.mem_of_getElem? (i := 66) rfl))) (notFace_of_selects (args := #[]) (mvT hZ (hw _ (List.mem_of_getElem? (i := 68) rfl)))) (mvT hZ (hw _ (List.mem_of_getElem? (i := 68) rfl))) (mvT hZ (hw _ (List.mem_of_getElem? (i := 67) rfl))) (by decide) (backOf (W := 0) (rm11 l Z a0 hw [] sq fp bs wa lk pg cu u (0 : Int32) (own_c (own_or M (0 : Int32))) M h0 n0 Z0 ⟨Sb.1, Sb.2.1, Sb.2.2.1, Sb.2.2.2.1, ⟨Sb.2.2.2.2.1, Sb.2.2.2.2.2.1, ⟨Sb.2.2.2.2.2.2.1, Sb.2.2.2.2.2.2.2.1, Sb.2.2.2.2.2.2.2.2.1, Sb.2.2.2.2.2.2.2.2.2.1, Sb.2.2.2.2.2.2.2.2.2.2⟩⟩⟩ Nn hu (own_ds (Or.inl rfl)) (by rw [hc]; exact (own_gd hm (Or.inl rfl)).1)) hZ (hw _ (List.mem_of_getElem? (i := 69) rfl)) (hw _ (List.mem_of_getElem? (i := 4) rfl)) (by decide) (by decide)) q9a q9c (g := (mkF m 53 #[.val (.ref sq), .val (.int fa), .val (.int fb), .val (.int fc), .val (.int ds), .val (.ref lk)] [(.int (0 : Int32)), (.ref lk), (.int (0 : Int32)), (.ref sq)])) rfl (by rw [hml]; rfl) (Steps.refl _) (argsL := [(.int (0 : Int32)), (.ref lk), (.int (0 : Int32))]) (rest := []) (lenOf pd_4 rfl) rfl (by show 2 * 0 + _ ≤ _; exact Nat.le_of_eq rfl) (hb hby d10_53) (fun _ _ => ⟨rfl, e0, (by decide : 0 + 0 ≤ _), (by decide : 0 + 0 ≤ _)⟩)
      dsimp only [Pt.U, Pt.locs, Pt.cells, Pt.slots] at X9 l9 y9 z9 st9 hQ9
      subst l9 y9 z9
      refine own_by (fun t kk_ => st9.trans kk_) ?_
      obtain ⟨rfl, N9q, S9⟩ := hQ9
      have N9 := Fr.app N0 N9q
      have sz9 : n0 ≤ T9.heap.size := Nat.le_trans Nn.1 (Nat.le_of_lt (Exa.lt S9.1))
      show OwnG p e below s _ _ _ (T9.setTop (mkF m 56 #[.val (.ref sq), .val (.int fa), .val (.int fb), .val (.int fc), .val (.int ds), .val (.ref lk)] []))
      refine own_by (fun t kk_ => XS.iloadN X9.here hx rfl (hb hby d10_56) rfl  kk_) ?_
      show OwnG p e below s _ _ _ (T9.setTop (mkF m 57 #[.val (.ref sq), .val (.int fa), .val (.int fb), .val (.int fc), .val (.int ds), .val (.ref lk)] [(.int fb)]))
      by_cases hb57_10 : fb = (0 : Int32)
      · refine own_by (fun t kk_ => XS.ifYes X9.here hx rfl (pc0 := 57) (pc' := 68) rfl (hb hby d10_57) rfl ((if0 _ _).trans (teq hb57_10).1) (by decide) (by decide) kk_) ?_
        show OwnG p e below s _ _ _ (T9.setTop (mkF m 68 #[.val (.ref sq), .val (.int fa), .val (.int fb), .val (.int fc), .val (.int ds), .val (.ref lk)] []))
        refine own_by (fun t kk_ => XS.iloadN X9.here hx rfl (hb hby d10_68) rfl  kk_) ?_
        show OwnG p e below s _ _ _ (T9.setTop (mkF m 69 #[.val (.ref sq), .val (.int fa), .val (.int fb), .val (.int fc), .val (.int ds), .val (.ref lk)] [(.int fc)]))
        by_cases hb69_11 : fc = (0 : Int32)
        · refine own_by (fun t kk_ => XS.ifYes X9.here hx rfl (pc0 := 69) (pc' := 80) rfl (hb hby d10_69) rfl ((if0 _ _).trans (teq hb69_11).1) (by decide) (by decide) kk_) ?_
          show OwnG p e below s _ _ _ (T9.setTop (mkF m 80 #[.val (.ref sq), .val (.int fa), .val (.int fb), .val (.int fc), .val (.int ds), .val (.ref lk)] []))
          exact own_outV X9 hx hret hlk (hb hby d10_80) (by show _ ∧ _; rw [(rfl : T9.heap = T9.heap), show own_set M fa fb fc = (own_or M (0 : Int32)) from by simp [own_set, own_o, own_cm _ 2 1, own_cm _ 2 0, own_cm _ 1 0, hb2_1, hb45_2, hb57_10, hb69_11]]; exact ⟨rfl, N9, (1 : Int32), (own_gd hm (Or.inl rfl)).2, (Or.inr rfl), ⟨S9.1, S9.2.1, S9.2.2.1, S9.2.2.2.1, ⟨S9.2.2.2.2.1, S9.2.2.2.2.2.1, ⟨S9.2.2.2.2.2.2.1, S9.2.2.2.2.2.2.2.1, S9.2.2.2.2.2.2.2.2.1, S9.2.2.2.2.2.2.2.2.2.1, S9.2.2.2.2.2.2.2.2.2.2⟩⟩⟩⟩) (by decide) (by decide)
        · refine own_by (fun t kk_ => XS.ifNo X9.here hx rfl (hb hby d10_69) rfl ((if0 _ _).trans (feq hb69_11).1) kk_) ?_
          show OwnG p e below s _ _ _ (T9.setTop (mkF m 72 #[.val (.ref sq), .val (.int fa), .val (.int fb), .val (.int fc), .val (.int ds), .val (.ref lk)] []))
          refine own_by (fun t kk_ => XS.aloadN X9.here hx rfl (hb hby d10_72) rfl rfl kk_) ?_
          show OwnG p e below s _ _ _ (T9.setTop (mkF m 73 #[.val (.ref sq), .val (.int fa), .val (.int fb), .val (.int fc), .val (.int ds), .val (.ref lk)] [(.ref sq)]))
          refine own_by (fun t kk_ => XS.iconst X9.here hx rfl (hb hby d10_73) kk_) ?_
          show OwnG p e below s _ _ _ (T9.setTop (mkF m 74 #[.val (.ref sq), .val (.int fa), .val (.int fb), .val (.int fc), .val (.int ds), .val (.ref lk)] [(.int (2 : Int32)), (.ref sq)]))
          refine own_by (fun t kk_ => XS.aload X9.here hx rfl (hb hby d10_74) rfl rfl kk_) ?_
          show OwnG p e below s _ _ _ (T9.setTop (mkF m 76 #[.val (.ref sq), .val (.int fa), .val (.int fb), .val (.int fc), .val (.int ds), .val (.ref lk)] [(.ref lk), (.int (2 : Int32)), (.ref sq)]))
          refine own_by (fun t kk_ => XS.iconst X9.here hx rfl (hb hby d10_76) kk_) ?_
          show OwnG p e below s _ _ _ (T9.setTop (mkF m 77 #[.val (.ref sq), .val (.int fa), .val (.int fb), .val (.int fc), .val (.int ds), .val (.ref lk)] [(.int (0 : Int32)), (.ref lk), (.int (2 : Int32)), (.ref sq)]))
          obtain ⟨cq12, kq12, q12a, q12b, q12c⟩ := isOf hZ (rfl : T9.heap = T9.heap) S9.1
          obtain ⟨_, _, ⟨T12, L12, k12, n12⟩, -, X12, ⟨Lc12, hQ12, l12, y12, z12⟩, st12⟩ := X9.virtualBack hx (y := (⟨"com/example/score_on_crawl/scoreoncrawl/engine/BreadthFirstSequence", "fetched", "(I[II)V"⟩ : MethodName)) (z := (⟨"com/example/score_on_crawl/scoreoncrawl/engine/BreadthFirstSequence", "fetched", "(I[II)V"⟩ : MethodName)) hown (mvT hZ (hw _ (List.mem_of_getElem? (i := 65) rfl))) (mvT hZ (hw _ (List.mem_of_getElem? (i := 66) rfl))) (notFace_of_selects (args := #[]) (mvT hZ (hw _ (List.mem_of_getElem? (i := 68) rfl)))) (mvT hZ (hw _ (List.mem_of_getElem? (i := 68) rfl))) (mvT hZ (hw _ (List.mem_of_getElem? (i := 67) rfl))) (by decide) (backOf (W := 0) (rm11 l Z a0 hw [] sq fp bs wa lk pg (own_c (own_or M (0 : Int32))) (1 : Int32) (2 : Int32) (own_c (own_or (own_or M (0 : Int32)) (2 : Int32))) (own_or M (0 : Int32)) T9.heap n0 sz9 ⟨S9.1, S9.2.1, S9.2.2.1, S9.2.2.2.1, ⟨S9.2.2.2.2.1, S9.2.2.2.2.2.1, ⟨S9.2.2.2.2.2.2.1, S9.2.2.2.2.2.2.2.1, S9.2.2.2.2.2.2.2.2.1, S9.2.2.2.2.2.2.2.2.2.1, S9.2.2.2.2.2.2.2.2.2.2⟩⟩⟩ Nn (Or.inr rfl) (own_ds (Or.inr (Or.inr rfl))) (own_gd (own_gd hm (Or.inl rfl)).2 (Or.inr (Or.inr rfl))).1) hZ (hw _ (List.mem_of_getElem? (i := 69) rfl)) (hw _ (List.mem_of_getElem? (i := 4) rfl)) (by decide) (by decide)) q12a q12c (g := (mkF m 77 #[.val (.ref sq), .val (.int fa), .val (.int fb), .val (.int fc), .val (.int ds), .val (.ref lk)] [(.int (0 : Int32)), (.ref lk), (.int (2 : Int32)), (.ref sq)])) rfl (by rw [hml]; rfl) (Steps.refl _) (argsL := [(.int (2 : Int32)), (.ref lk), (.int (0 : Int32))]) (rest := []) (lenOf pd_4 rfl) rfl (by show 2 * 0 + _ ≤ _; exact Nat.le_of_eq rfl) (hb hby d10_77) (fun _ _ => ⟨rfl, (rfl : T9.heap = T9.heap), (by decide : 0 + 0 ≤ _), (by decide : 0 + 0 ≤ _)⟩)
          dsimp only [Pt.U, Pt.locs, Pt.cells, Pt.slots] at X12 l12 y12 z12 st12 hQ12
          subst l12 y12 z12
          refine own_by (fun t kk_ => st12.trans kk_) ?_
          obtain ⟨rfl, N12q, S12⟩ := hQ12
          have N12 := Fr.app N9 N12q
          have sz12 : n0 ≤ T12.heap.size := Nat.le_trans Nn.1 (Nat.le_of_lt (Exa.lt S12.1))
          show OwnG p e below s _ _ _ (T12.setTop (mkF m 80 #[.val (.ref sq), .val (.int fa), .val (.int fb), .val (.int fc), .val (.int ds), .val (.ref lk)] []))
          exact own_outV X12 hx hret hlk (hb hby d10_80) (by show _ ∧ _; rw [(rfl : T12.heap = T12.heap), show own_set M fa fb fc = (own_or (own_or M (0 : Int32)) (2 : Int32)) from by simp [own_set, own_o, own_cm _ 2 1, own_cm _ 2 0, own_cm _ 1 0, hb2_1, hb45_2, hb57_10, hb69_11]]; exact ⟨rfl, N12, (1 : Int32), (own_gd (own_gd hm (Or.inl rfl)).2 (Or.inr (Or.inr rfl))).2, (Or.inr rfl), ⟨S12.1, S12.2.1, S12.2.2.1, S12.2.2.2.1, ⟨S12.2.2.2.2.1, S12.2.2.2.2.2.1, ⟨S12.2.2.2.2.2.2.1, S12.2.2.2.2.2.2.2.1, S12.2.2.2.2.2.2.2.2.1, S12.2.2.2.2.2.2.2.2.2.1, S12.2.2.2.2.2.2.2.2.2.2⟩⟩⟩⟩) (by decide) (by decide)
      · refine own_by (fun t kk_ => XS.ifNo X9.here hx rfl (hb hby d10_57) rfl ((if0 _ _).trans (feq hb57_10).1) kk_) ?_
        show OwnG p e below s _ _ _ (T9.setTop (mkF m 60 #[.val (.ref sq), .val (.int fa), .val (.int fb), .val (.int fc), .val (.int ds), .val (.ref lk)] []))
        refine own_by (fun t kk_ => XS.aloadN X9.here hx rfl (hb hby d10_60) rfl rfl kk_) ?_
        show OwnG p e below s _ _ _ (T9.setTop (mkF m 61 #[.val (.ref sq), .val (.int fa), .val (.int fb), .val (.int fc), .val (.int ds), .val (.ref lk)] [(.ref sq)]))
        refine own_by (fun t kk_ => XS.iconst X9.here hx rfl (hb hby d10_61) kk_) ?_
        show OwnG p e below s _ _ _ (T9.setTop (mkF m 62 #[.val (.ref sq), .val (.int fa), .val (.int fb), .val (.int fc), .val (.int ds), .val (.ref lk)] [(.int (1 : Int32)), (.ref sq)]))
        refine own_by (fun t kk_ => XS.aload X9.here hx rfl (hb hby d10_62) rfl rfl kk_) ?_
        show OwnG p e below s _ _ _ (T9.setTop (mkF m 64 #[.val (.ref sq), .val (.int fa), .val (.int fb), .val (.int fc), .val (.int ds), .val (.ref lk)] [(.ref lk), (.int (1 : Int32)), (.ref sq)]))
        refine own_by (fun t kk_ => XS.iconst X9.here hx rfl (hb hby d10_64) kk_) ?_
        show OwnG p e below s _ _ _ (T9.setTop (mkF m 65 #[.val (.ref sq), .val (.int fa), .val (.int fb), .val (.int fc), .val (.int ds), .val (.ref lk)] [(.int (0 : Int32)), (.ref lk), (.int (1 : Int32)), (.ref sq)]))
        obtain ⟨cq13, kq13, q13a, q13b, q13c⟩ := isOf hZ (rfl : T9.heap = T9.heap) S9.1
        obtain ⟨_, _, ⟨T13, L13, k13, n13⟩, -, X13, ⟨Lc13, hQ13, l13, y13, z13⟩, st13⟩ := X9.virtualBack hx (y := (⟨"com/example/score_on_crawl/scoreoncrawl/engine/BreadthFirstSequence", "fetched", "(I[II)V"⟩ : MethodName)) (z := (⟨"com/example/score_on_crawl/scoreoncrawl/engine/BreadthFirstSequence", "fetched", "(I[II)V"⟩ : MethodName)) hown (mvT hZ (hw _ (List.mem_of_getElem? (i := 65) rfl))) (mvT hZ (hw _ (List.mem_of_getElem? (i := 66) rfl))) (notFace_of_selects (args := #[]) (mvT hZ (hw _ (List.mem_of_getElem? (i := 68) rfl)))) (mvT hZ (hw _ (List.mem_of_getElem? (i := 68) rfl))) (mvT hZ (hw _ (List.mem_of_getElem? (i := 67) rfl))) (by decide) (backOf (W := 0) (rm11 l Z a0 hw [] sq fp bs wa lk pg (own_c (own_or M (0 : Int32))) (1 : Int32) (1 : Int32) (own_c (own_or (own_or M (0 : Int32)) (1 : Int32))) (own_or M (0 : Int32)) T9.heap n0 sz9 ⟨S9.1, S9.2.1, S9.2.2.1, S9.2.2.2.1, ⟨S9.2.2.2.2.1, S9.2.2.2.2.2.1, ⟨S9.2.2.2.2.2.2.1, S9.2.2.2.2.2.2.2.1, S9.2.2.2.2.2.2.2.2.1, S9.2.2.2.2.2.2.2.2.2.1, S9.2.2.2.2.2.2.2.2.2.2⟩⟩⟩ Nn (Or.inr rfl) (own_ds (Or.inr (Or.inl rfl))) (own_gd (own_gd hm (Or.inl rfl)).2 (Or.inr (Or.inl rfl))).1) hZ (hw _ (List.mem_of_getElem? (i := 69) rfl)) (hw _ (List.mem_of_getElem? (i := 4) rfl)) (by decide) (by decide)) q13a q13c (g := (mkF m 65 #[.val (.ref sq), .val (.int fa), .val (.int fb), .val (.int fc), .val (.int ds), .val (.ref lk)] [(.int (0 : Int32)), (.ref lk), (.int (1 : Int32)), (.ref sq)])) rfl (by rw [hml]; rfl) (Steps.refl _) (argsL := [(.int (1 : Int32)), (.ref lk), (.int (0 : Int32))]) (rest := []) (lenOf pd_4 rfl) rfl (by show 2 * 0 + _ ≤ _; exact Nat.le_of_eq rfl) (hb hby d10_65) (fun _ _ => ⟨rfl, (rfl : T9.heap = T9.heap), (by decide : 0 + 0 ≤ _), (by decide : 0 + 0 ≤ _)⟩)
        dsimp only [Pt.U, Pt.locs, Pt.cells, Pt.slots] at X13 l13 y13 z13 st13 hQ13
        subst l13 y13 z13
        refine own_by (fun t kk_ => st13.trans kk_) ?_
        obtain ⟨rfl, N13q, S13⟩ := hQ13
        have N13 := Fr.app N9 N13q
        have sz13 : n0 ≤ T13.heap.size := Nat.le_trans Nn.1 (Nat.le_of_lt (Exa.lt S13.1))
        show OwnG p e below s _ _ _ (T13.setTop (mkF m 68 #[.val (.ref sq), .val (.int fa), .val (.int fb), .val (.int fc), .val (.int ds), .val (.ref lk)] []))
        refine own_by (fun t kk_ => XS.iloadN X13.here hx rfl (hb hby d10_68) rfl  kk_) ?_
        show OwnG p e below s _ _ _ (T13.setTop (mkF m 69 #[.val (.ref sq), .val (.int fa), .val (.int fb), .val (.int fc), .val (.int ds), .val (.ref lk)] [(.int fc)]))
        by_cases hb69_14 : fc = (0 : Int32)
        · refine own_by (fun t kk_ => XS.ifYes X13.here hx rfl (pc0 := 69) (pc' := 80) rfl (hb hby d10_69) rfl ((if0 _ _).trans (teq hb69_14).1) (by decide) (by decide) kk_) ?_
          show OwnG p e below s _ _ _ (T13.setTop (mkF m 80 #[.val (.ref sq), .val (.int fa), .val (.int fb), .val (.int fc), .val (.int ds), .val (.ref lk)] []))
          exact own_outV X13 hx hret hlk (hb hby d10_80) (by show _ ∧ _; rw [(rfl : T13.heap = T13.heap), show own_set M fa fb fc = (own_or (own_or M (0 : Int32)) (1 : Int32)) from by simp [own_set, own_o, own_cm _ 2 1, own_cm _ 2 0, own_cm _ 1 0, hb2_1, hb45_2, hb57_10, hb69_14]]; exact ⟨rfl, N13, (1 : Int32), (own_gd (own_gd hm (Or.inl rfl)).2 (Or.inr (Or.inl rfl))).2, (Or.inr rfl), ⟨S13.1, S13.2.1, S13.2.2.1, S13.2.2.2.1, ⟨S13.2.2.2.2.1, S13.2.2.2.2.2.1, ⟨S13.2.2.2.2.2.2.1, S13.2.2.2.2.2.2.2.1, S13.2.2.2.2.2.2.2.2.1, S13.2.2.2.2.2.2.2.2.2.1, S13.2.2.2.2.2.2.2.2.2.2⟩⟩⟩⟩) (by decide) (by decide)
        · refine own_by (fun t kk_ => XS.ifNo X13.here hx rfl (hb hby d10_69) rfl ((if0 _ _).trans (feq hb69_14).1) kk_) ?_
          show OwnG p e below s _ _ _ (T13.setTop (mkF m 72 #[.val (.ref sq), .val (.int fa), .val (.int fb), .val (.int fc), .val (.int ds), .val (.ref lk)] []))
          refine own_by (fun t kk_ => XS.aloadN X13.here hx rfl (hb hby d10_72) rfl rfl kk_) ?_
          show OwnG p e below s _ _ _ (T13.setTop (mkF m 73 #[.val (.ref sq), .val (.int fa), .val (.int fb), .val (.int fc), .val (.int ds), .val (.ref lk)] [(.ref sq)]))
          refine own_by (fun t kk_ => XS.iconst X13.here hx rfl (hb hby d10_73) kk_) ?_
          show OwnG p e below s _ _ _ (T13.setTop (mkF m 74 #[.val (.ref sq), .val (.int fa), .val (.int fb), .val (.int fc), .val (.int ds), .val (.ref lk)] [(.int (2 : Int32)), (.ref sq)]))
          refine own_by (fun t kk_ => XS.aload X13.here hx rfl (hb hby d10_74) rfl rfl kk_) ?_
          show OwnG p e below s _ _ _ (T13.setTop (mkF m 76 #[.val (.ref sq), .val (.int fa), .val (.int fb), .val (.int fc), .val (.int ds), .val (.ref lk)] [(.ref lk), (.int (2 : Int32)), (.ref sq)]))
          refine own_by (fun t kk_ => XS.iconst X13.here hx rfl (hb hby d10_76) kk_) ?_
          show OwnG p e below s _ _ _ (T13.setTop (mkF m 77 #[.val (.ref sq), .val (.int fa), .val (.int fb), .val (.int fc), .val (.int ds), .val (.ref lk)] [(.int (0 : Int32)), (.ref lk), (.int (2 : Int32)), (.ref sq)]))
          obtain ⟨cq15, kq15, q15a, q15b, q15c⟩ := isOf hZ (rfl : T13.heap = T13.heap) S13.1
          obtain ⟨_, _, ⟨T15, L15, k15, n15⟩, -, X15, ⟨Lc15, hQ15, l15, y15, z15⟩, st15⟩ := X13.virtualBack hx (y := (⟨"com/example/score_on_crawl/scoreoncrawl/engine/BreadthFirstSequence", "fetched", "(I[II)V"⟩ : MethodName)) (z := (⟨"com/example/score_on_crawl/scoreoncrawl/engine/BreadthFirstSequence", "fetched", "(I[II)V"⟩ : MethodName)) hown (mvT hZ (hw _ (List.mem_of_getElem? (i := 65) rfl))) (mvT hZ (hw _ (List.mem_of_getElem? (i := 66) rfl))) (notFace_of_selects (args := #[]) (mvT hZ (hw _ (List.mem_of_getElem? (i := 68) rfl)))) (mvT hZ (hw _ (List.mem_of_getElem? (i := 68) rfl))) (mvT hZ (hw _ (List.mem_of_getElem? (i := 67) rfl))) (by decide) (backOf (W := 0) (rm11 l Z a0 hw [] sq fp bs wa lk pg (own_c (own_or (own_or M (0 : Int32)) (1 : Int32))) (1 : Int32) (2 : Int32) (own_c (own_or (own_or (own_or M (0 : Int32)) (1 : Int32)) (2 : Int32))) (own_or (own_or M (0 : Int32)) (1 : Int32)) T13.heap n0 sz13 ⟨S13.1, S13.2.1, S13.2.2.1, S13.2.2.2.1, ⟨S13.2.2.2.2.1, S13.2.2.2.2.2.1, ⟨S13.2.2.2.2.2.2.1, S13.2.2.2.2.2.2.2.1, S13.2.2.2.2.2.2.2.2.1, S13.2.2.2.2.2.2.2.2.2.1, S13.2.2.2.2.2.2.2.2.2.2⟩⟩⟩ Nn (Or.inr rfl) (own_ds (Or.inr (Or.inr rfl))) (own_gd (own_gd (own_gd hm (Or.inl rfl)).2 (Or.inr (Or.inl rfl))).2 (Or.inr (Or.inr rfl))).1) hZ (hw _ (List.mem_of_getElem? (i := 69) rfl)) (hw _ (List.mem_of_getElem? (i := 4) rfl)) (by decide) (by decide)) q15a q15c (g := (mkF m 77 #[.val (.ref sq), .val (.int fa), .val (.int fb), .val (.int fc), .val (.int ds), .val (.ref lk)] [(.int (0 : Int32)), (.ref lk), (.int (2 : Int32)), (.ref sq)])) rfl (by rw [hml]; rfl) (Steps.refl _) (argsL := [(.int (2 : Int32)), (.ref lk), (.int (0 : Int32))]) (rest := []) (lenOf pd_4 rfl) rfl (by show 2 * 0 + _ ≤ _; exact Nat.le_of_eq rfl) (hb hby d10_77) (fun _ _ => ⟨rfl, (rfl : T13.heap = T13.heap), (by decide : 0 + 0 ≤ _), (by decide : 0 + 0 ≤ _)⟩)
          dsimp only [Pt.U, Pt.locs, Pt.cells, Pt.slots] at X15 l15 y15 z15 st15 hQ15
          subst l15 y15 z15
          refine own_by (fun t kk_ => st15.trans kk_) ?_
          obtain ⟨rfl, N15q, S15⟩ := hQ15
          have N15 := Fr.app N13 N15q
          have sz15 : n0 ≤ T15.heap.size := Nat.le_trans Nn.1 (Nat.le_of_lt (Exa.lt S15.1))
          show OwnG p e below s _ _ _ (T15.setTop (mkF m 80 #[.val (.ref sq), .val (.int fa), .val (.int fb), .val (.int fc), .val (.int ds), .val (.ref lk)] []))
          exact own_outV X15 hx hret hlk (hb hby d10_80) (by show _ ∧ _; rw [(rfl : T15.heap = T15.heap), show own_set M fa fb fc = (own_or (own_or (own_or M (0 : Int32)) (1 : Int32)) (2 : Int32)) from by simp [own_set, own_o, own_cm _ 2 1, own_cm _ 2 0, own_cm _ 1 0, hb2_1, hb45_2, hb57_10, hb69_14]]; exact ⟨rfl, N15, (1 : Int32), (own_gd (own_gd (own_gd hm (Or.inl rfl)).2 (Or.inr (Or.inl rfl))).2 (Or.inr (Or.inr rfl))).2, (Or.inr rfl), ⟨S15.1, S15.2.1, S15.2.2.1, S15.2.2.2.1, ⟨S15.2.2.2.2.1, S15.2.2.2.2.2.1, ⟨S15.2.2.2.2.2.2.1, S15.2.2.2.2.2.2.2.1, S15.2.2.2.2.2.2.2.2.1, S15.2.2.2.2.2.2.2.2.2.1, S15.2.2.2.2.2.2.2.2.2.2⟩⟩⟩⟩) (by decide) (by decide)
  · refine own_by (fun t kk_ => XS.ifNo X0.here hx rfl (hb hby d10_2) rfl ((if0 _ _).trans (feq hb2_1).1) kk_) ?_
    show OwnG p e below s _ _ _ (s₁.setTop (mkF m 5 #[.val (.ref sq), .val (.int fa), .val (.int fb), .val (.int fc), .val (.int ds), .val (.ref lk)] []))
    refine own_by (fun t kk_ => XS.iloadN X0.here hx rfl (hb hby d10_5) rfl  kk_) ?_
    show OwnG p e below s _ _ _ (s₁.setTop (mkF m 6 #[.val (.ref sq), .val (.int fa), .val (.int fb), .val (.int fc), .val (.int ds), .val (.ref lk)] [(.int fc)]))
    by_cases hb6_16 : fc = (0 : Int32)
    · refine own_by (fun t kk_ => XS.ifYes X0.here hx rfl (pc0 := 6) (pc' := 17) rfl (hb hby d10_6) rfl ((if0 _ _).trans (teq hb6_16).1) (by decide) (by decide) kk_) ?_
      show OwnG p e below s _ _ _ (s₁.setTop (mkF m 17 #[.val (.ref sq), .val (.int fa), .val (.int fb), .val (.int fc), .val (.int ds), .val (.ref lk)] []))
      refine own_by (fun t kk_ => XS.iloadN X0.here hx rfl (hb hby d10_17) rfl  kk_) ?_
      show OwnG p e below s _ _ _ (s₁.setTop (mkF m 18 #[.val (.ref sq), .val (.int fa), .val (.int fb), .val (.int fc), .val (.int ds), .val (.ref lk)] [(.int fb)]))
      by_cases hb18_17 : fb = (0 : Int32)
      · refine own_by (fun t kk_ => XS.ifYes X0.here hx rfl (pc0 := 18) (pc' := 29) rfl (hb hby d10_18) rfl ((if0 _ _).trans (teq hb18_17).1) (by decide) (by decide) kk_) ?_
        show OwnG p e below s _ _ _ (s₁.setTop (mkF m 29 #[.val (.ref sq), .val (.int fa), .val (.int fb), .val (.int fc), .val (.int ds), .val (.ref lk)] []))
        refine own_by (fun t kk_ => XS.iloadN X0.here hx rfl (hb hby d10_29) rfl  kk_) ?_
        show OwnG p e below s _ _ _ (s₁.setTop (mkF m 30 #[.val (.ref sq), .val (.int fa), .val (.int fb), .val (.int fc), .val (.int ds), .val (.ref lk)] [(.int fa)]))
        by_cases hb30_18 : fa = (0 : Int32)
        · refine own_by (fun t kk_ => XS.ifYes X0.here hx rfl (pc0 := 30) (pc' := 80) rfl (hb hby d10_30) rfl ((if0 _ _).trans (teq hb30_18).1) (by decide) (by decide) kk_) ?_
          show OwnG p e below s _ _ _ (s₁.setTop (mkF m 80 #[.val (.ref sq), .val (.int fa), .val (.int fb), .val (.int fc), .val (.int ds), .val (.ref lk)] []))
          exact own_outV X0 hx hret hlk (hb hby d10_80) (by show _ ∧ _; rw [e0, show own_set M fa fb fc = M from by simp [own_set, own_o, own_cm _ 2 1, own_cm _ 2 0, own_cm _ 1 0, hb2_1, hb6_16, hb18_17, hb30_18]]; exact ⟨rfl, N0, u, hm, hu, by rw [← hc]; exact ⟨Sb.1, Sb.2.1, Sb.2.2.1, Sb.2.2.2.1, ⟨Sb.2.2.2.2.1, Sb.2.2.2.2.2.1, ⟨Sb.2.2.2.2.2.2.1, Sb.2.2.2.2.2.2.2.1, Sb.2.2.2.2.2.2.2.2.1, Sb.2.2.2.2.2.2.2.2.2.1, Sb.2.2.2.2.2.2.2.2.2.2⟩⟩⟩⟩) (by decide) (by decide)
        · refine own_by (fun t kk_ => XS.ifNo X0.here hx rfl (hb hby d10_30) rfl ((if0 _ _).trans (feq hb30_18).1) kk_) ?_
          show OwnG p e below s _ _ _ (s₁.setTop (mkF m 33 #[.val (.ref sq), .val (.int fa), .val (.int fb), .val (.int fc), .val (.int ds), .val (.ref lk)] []))
          refine own_by (fun t kk_ => XS.aloadN X0.here hx rfl (hb hby d10_33) rfl rfl kk_) ?_
          show OwnG p e below s _ _ _ (s₁.setTop (mkF m 34 #[.val (.ref sq), .val (.int fa), .val (.int fb), .val (.int fc), .val (.int ds), .val (.ref lk)] [(.ref sq)]))
          refine own_by (fun t kk_ => XS.iconst X0.here hx rfl (hb hby d10_34) kk_) ?_
          show OwnG p e below s _ _ _ (s₁.setTop (mkF m 35 #[.val (.ref sq), .val (.int fa), .val (.int fb), .val (.int fc), .val (.int ds), .val (.ref lk)] [(.int (0 : Int32)), (.ref sq)]))
          refine own_by (fun t kk_ => XS.aload X0.here hx rfl (hb hby d10_35) rfl rfl kk_) ?_
          show OwnG p e below s _ _ _ (s₁.setTop (mkF m 37 #[.val (.ref sq), .val (.int fa), .val (.int fb), .val (.int fc), .val (.int ds), .val (.ref lk)] [(.ref lk), (.int (0 : Int32)), (.ref sq)]))
          refine own_by (fun t kk_ => XS.iconst X0.here hx rfl (hb hby d10_37) kk_) ?_
          show OwnG p e below s _ _ _ (s₁.setTop (mkF m 38 #[.val (.ref sq), .val (.int fa), .val (.int fb), .val (.int fc), .val (.int ds), .val (.ref lk)] [(.int (0 : Int32)), (.ref lk), (.int (0 : Int32)), (.ref sq)]))
          obtain ⟨cq19, kq19, q19a, q19b, q19c⟩ := isOf hZ e0 Sb.1
          obtain ⟨_, _, ⟨T19, L19, k19, n19⟩, -, X19, ⟨Lc19, hQ19, l19, y19, z19⟩, st19⟩ := X0.virtualBack hx (y := (⟨"com/example/score_on_crawl/scoreoncrawl/engine/BreadthFirstSequence", "fetched", "(I[II)V"⟩ : MethodName)) (z := (⟨"com/example/score_on_crawl/scoreoncrawl/engine/BreadthFirstSequence", "fetched", "(I[II)V"⟩ : MethodName)) hown (mvT hZ (hw _ (List.mem_of_getElem? (i := 65) rfl))) (mvT hZ (hw _ (List.mem_of_getElem? (i := 66) rfl))) (notFace_of_selects (args := #[]) (mvT hZ (hw _ (List.mem_of_getElem? (i := 68) rfl)))) (mvT hZ (hw _ (List.mem_of_getElem? (i := 68) rfl))) (mvT hZ (hw _ (List.mem_of_getElem? (i := 67) rfl))) (by decide) (backOf (W := 0) (rm11 l Z a0 hw [] sq fp bs wa lk pg cu u (0 : Int32) (own_c (own_or M (0 : Int32))) M h0 n0 Z0 ⟨Sb.1, Sb.2.1, Sb.2.2.1, Sb.2.2.2.1, ⟨Sb.2.2.2.2.1, Sb.2.2.2.2.2.1, ⟨Sb.2.2.2.2.2.2.1, Sb.2.2.2.2.2.2.2.1, Sb.2.2.2.2.2.2.2.2.1, Sb.2.2.2.2.2.2.2.2.2.1, Sb.2.2.2.2.2.2.2.2.2.2⟩⟩⟩ Nn hu (own_ds (Or.inl rfl)) (by rw [hc]; exact (own_gd hm (Or.inl rfl)).1)) hZ (hw _ (List.mem_of_getElem? (i := 69) rfl)) (hw _ (List.mem_of_getElem? (i := 4) rfl)) (by decide) (by decide)) q19a q19c (g := (mkF m 38 #[.val (.ref sq), .val (.int fa), .val (.int fb), .val (.int fc), .val (.int ds), .val (.ref lk)] [(.int (0 : Int32)), (.ref lk), (.int (0 : Int32)), (.ref sq)])) rfl (by rw [hml]; rfl) (Steps.refl _) (argsL := [(.int (0 : Int32)), (.ref lk), (.int (0 : Int32))]) (rest := []) (lenOf pd_4 rfl) rfl (by show 2 * 0 + _ ≤ _; exact Nat.le_of_eq rfl) (hb hby d10_38) (fun _ _ => ⟨rfl, e0, (by decide : 0 + 0 ≤ _), (by decide : 0 + 0 ≤ _)⟩)
          dsimp only [Pt.U, Pt.locs, Pt.cells, Pt.slots] at X19 l19 y19 z19 st19 hQ19
          subst l19 y19 z19
          refine own_by (fun t kk_ => st19.trans kk_) ?_
          obtain ⟨rfl, N19q, S19⟩ := hQ19
          have N19 := Fr.app N0 N19q
          have sz19 : n0 ≤ T19.heap.size := Nat.le_trans Nn.1 (Nat.le_of_lt (Exa.lt S19.1))
          show OwnG p e below s _ _ _ (T19.setTop (mkF m 41 #[.val (.ref sq), .val (.int fa), .val (.int fb), .val (.int fc), .val (.int ds), .val (.ref lk)] []))
          refine own_by (fun t kk_ => XS.goto X19.here hx rfl (pc0 := 41) (pc' := 80) rfl (hb hby d10_41) (by decide) (by decide) kk_) ?_
          show OwnG p e below s _ _ _ (T19.setTop (mkF m 80 #[.val (.ref sq), .val (.int fa), .val (.int fb), .val (.int fc), .val (.int ds), .val (.ref lk)] []))
          exact own_outV X19 hx hret hlk (hb hby d10_80) (by show _ ∧ _; rw [(rfl : T19.heap = T19.heap), show own_set M fa fb fc = (own_or M (0 : Int32)) from by simp [own_set, own_o, own_cm _ 2 1, own_cm _ 2 0, own_cm _ 1 0, hb2_1, hb6_16, hb18_17, hb30_18]]; exact ⟨rfl, N19, (1 : Int32), (own_gd hm (Or.inl rfl)).2, (Or.inr rfl), ⟨S19.1, S19.2.1, S19.2.2.1, S19.2.2.2.1, ⟨S19.2.2.2.2.1, S19.2.2.2.2.2.1, ⟨S19.2.2.2.2.2.2.1, S19.2.2.2.2.2.2.2.1, S19.2.2.2.2.2.2.2.2.1, S19.2.2.2.2.2.2.2.2.2.1, S19.2.2.2.2.2.2.2.2.2.2⟩⟩⟩⟩) (by decide) (by decide)
      · refine own_by (fun t kk_ => XS.ifNo X0.here hx rfl (hb hby d10_18) rfl ((if0 _ _).trans (feq hb18_17).1) kk_) ?_
        show OwnG p e below s _ _ _ (s₁.setTop (mkF m 21 #[.val (.ref sq), .val (.int fa), .val (.int fb), .val (.int fc), .val (.int ds), .val (.ref lk)] []))
        refine own_by (fun t kk_ => XS.aloadN X0.here hx rfl (hb hby d10_21) rfl rfl kk_) ?_
        show OwnG p e below s _ _ _ (s₁.setTop (mkF m 22 #[.val (.ref sq), .val (.int fa), .val (.int fb), .val (.int fc), .val (.int ds), .val (.ref lk)] [(.ref sq)]))
        refine own_by (fun t kk_ => XS.iconst X0.here hx rfl (hb hby d10_22) kk_) ?_
        show OwnG p e below s _ _ _ (s₁.setTop (mkF m 23 #[.val (.ref sq), .val (.int fa), .val (.int fb), .val (.int fc), .val (.int ds), .val (.ref lk)] [(.int (1 : Int32)), (.ref sq)]))
        refine own_by (fun t kk_ => XS.aload X0.here hx rfl (hb hby d10_23) rfl rfl kk_) ?_
        show OwnG p e below s _ _ _ (s₁.setTop (mkF m 25 #[.val (.ref sq), .val (.int fa), .val (.int fb), .val (.int fc), .val (.int ds), .val (.ref lk)] [(.ref lk), (.int (1 : Int32)), (.ref sq)]))
        refine own_by (fun t kk_ => XS.iconst X0.here hx rfl (hb hby d10_25) kk_) ?_
        show OwnG p e below s _ _ _ (s₁.setTop (mkF m 26 #[.val (.ref sq), .val (.int fa), .val (.int fb), .val (.int fc), .val (.int ds), .val (.ref lk)] [(.int (0 : Int32)), (.ref lk), (.int (1 : Int32)), (.ref sq)]))
        obtain ⟨cq20, kq20, q20a, q20b, q20c⟩ := isOf hZ e0 Sb.1
        obtain ⟨_, _, ⟨T20, L20, k20, n20⟩, -, X20, ⟨Lc20, hQ20, l20, y20, z20⟩, st20⟩ := X0.virtualBack hx (y := (⟨"com/example/score_on_crawl/scoreoncrawl/engine/BreadthFirstSequence", "fetched", "(I[II)V"⟩ : MethodName)) (z := (⟨"com/example/score_on_crawl/scoreoncrawl/engine/BreadthFirstSequence", "fetched", "(I[II)V"⟩ : MethodName)) hown (mvT hZ (hw _ (List.mem_of_getElem? (i := 65) rfl))) (mvT hZ (hw _ (List.mem_of_getElem? (i := 66) rfl))) (notFace_of_selects (args := #[]) (mvT hZ (hw _ (List.mem_of_getElem? (i := 68) rfl)))) (mvT hZ (hw _ (List.mem_of_getElem? (i := 68) rfl))) (mvT hZ (hw _ (List.mem_of_getElem? (i := 67) rfl))) (by decide) (backOf (W := 0) (rm11 l Z a0 hw [] sq fp bs wa lk pg cu u (1 : Int32) (own_c (own_or M (1 : Int32))) M h0 n0 Z0 ⟨Sb.1, Sb.2.1, Sb.2.2.1, Sb.2.2.2.1, ⟨Sb.2.2.2.2.1, Sb.2.2.2.2.2.1, ⟨Sb.2.2.2.2.2.2.1, Sb.2.2.2.2.2.2.2.1, Sb.2.2.2.2.2.2.2.2.1, Sb.2.2.2.2.2.2.2.2.2.1, Sb.2.2.2.2.2.2.2.2.2.2⟩⟩⟩ Nn hu (own_ds (Or.inr (Or.inl rfl))) (by rw [hc]; exact (own_gd hm (Or.inr (Or.inl rfl))).1)) hZ (hw _ (List.mem_of_getElem? (i := 69) rfl)) (hw _ (List.mem_of_getElem? (i := 4) rfl)) (by decide) (by decide)) q20a q20c (g := (mkF m 26 #[.val (.ref sq), .val (.int fa), .val (.int fb), .val (.int fc), .val (.int ds), .val (.ref lk)] [(.int (0 : Int32)), (.ref lk), (.int (1 : Int32)), (.ref sq)])) rfl (by rw [hml]; rfl) (Steps.refl _) (argsL := [(.int (1 : Int32)), (.ref lk), (.int (0 : Int32))]) (rest := []) (lenOf pd_4 rfl) rfl (by show 2 * 0 + _ ≤ _; exact Nat.le_of_eq rfl) (hb hby d10_26) (fun _ _ => ⟨rfl, e0, (by decide : 0 + 0 ≤ _), (by decide : 0 + 0 ≤ _)⟩)
        dsimp only [Pt.U, Pt.locs, Pt.cells, Pt.slots] at X20 l20 y20 z20 st20 hQ20
        subst l20 y20 z20
        refine own_by (fun t kk_ => st20.trans kk_) ?_
        obtain ⟨rfl, N20q, S20⟩ := hQ20
        have N20 := Fr.app N0 N20q
        have sz20 : n0 ≤ T20.heap.size := Nat.le_trans Nn.1 (Nat.le_of_lt (Exa.lt S20.1))
        show OwnG p e below s _ _ _ (T20.setTop (mkF m 29 #[.val (.ref sq), .val (.int fa), .val (.int fb), .val (.int fc), .val (.int ds), .val (.ref lk)] []))
        refine own_by (fun t kk_ => XS.iloadN X20.here hx rfl (hb hby d10_29) rfl  kk_) ?_
        show OwnG p e below s _ _ _ (T20.setTop (mkF m 30 #[.val (.ref sq), .val (.int fa), .val (.int fb), .val (.int fc), .val (.int ds), .val (.ref lk)] [(.int fa)]))
        by_cases hb30_21 : fa = (0 : Int32)
        · refine own_by (fun t kk_ => XS.ifYes X20.here hx rfl (pc0 := 30) (pc' := 80) rfl (hb hby d10_30) rfl ((if0 _ _).trans (teq hb30_21).1) (by decide) (by decide) kk_) ?_
          show OwnG p e below s _ _ _ (T20.setTop (mkF m 80 #[.val (.ref sq), .val (.int fa), .val (.int fb), .val (.int fc), .val (.int ds), .val (.ref lk)] []))
          exact own_outV X20 hx hret hlk (hb hby d10_80) (by show _ ∧ _; rw [(rfl : T20.heap = T20.heap), show own_set M fa fb fc = (own_or M (1 : Int32)) from by simp [own_set, own_o, own_cm _ 2 1, own_cm _ 2 0, own_cm _ 1 0, hb2_1, hb6_16, hb18_17, hb30_21]]; exact ⟨rfl, N20, (1 : Int32), (own_gd hm (Or.inr (Or.inl rfl))).2, (Or.inr rfl), ⟨S20.1, S20.2.1, S20.2.2.1, S20.2.2.2.1, ⟨S20.2.2.2.2.1, S20.2.2.2.2.2.1, ⟨S20.2.2.2.2.2.2.1, S20.2.2.2.2.2.2.2.1, S20.2.2.2.2.2.2.2.2.1, S20.2.2.2.2.2.2.2.2.2.1, S20.2.2.2.2.2.2.2.2.2.2⟩⟩⟩⟩) (by decide) (by decide)
        · refine own_by (fun t kk_ => XS.ifNo X20.here hx rfl (hb hby d10_30) rfl ((if0 _ _).trans (feq hb30_21).1) kk_) ?_
          show OwnG p e below s _ _ _ (T20.setTop (mkF m 33 #[.val (.ref sq), .val (.int fa), .val (.int fb), .val (.int fc), .val (.int ds), .val (.ref lk)] []))
          refine own_by (fun t kk_ => XS.aloadN X20.here hx rfl (hb hby d10_33) rfl rfl kk_) ?_
          show OwnG p e below s _ _ _ (T20.setTop (mkF m 34 #[.val (.ref sq), .val (.int fa), .val (.int fb), .val (.int fc), .val (.int ds), .val (.ref lk)] [(.ref sq)]))
          refine own_by (fun t kk_ => XS.iconst X20.here hx rfl (hb hby d10_34) kk_) ?_
          show OwnG p e below s _ _ _ (T20.setTop (mkF m 35 #[.val (.ref sq), .val (.int fa), .val (.int fb), .val (.int fc), .val (.int ds), .val (.ref lk)] [(.int (0 : Int32)), (.ref sq)]))
          refine own_by (fun t kk_ => XS.aload X20.here hx rfl (hb hby d10_35) rfl rfl kk_) ?_
          show OwnG p e below s _ _ _ (T20.setTop (mkF m 37 #[.val (.ref sq), .val (.int fa), .val (.int fb), .val (.int fc), .val (.int ds), .val (.ref lk)] [(.ref lk), (.int (0 : Int32)), (.ref sq)]))
          refine own_by (fun t kk_ => XS.iconst X20.here hx rfl (hb hby d10_37) kk_) ?_
          show OwnG p e below s _ _ _ (T20.setTop (mkF m 38 #[.val (.ref sq), .val (.int fa), .val (.int fb), .val (.int fc), .val (.int ds), .val (.ref lk)] [(.int (0 : Int32)), (.ref lk), (.int (0 : Int32)), (.ref sq)]))
          obtain ⟨cq22, kq22, q22a, q22b, q22c⟩ := isOf hZ (rfl : T20.heap = T20.heap) S20.1
          obtain ⟨_, _, ⟨T22, L22, k22, n22⟩, -, X22, ⟨Lc22, hQ22, l22, y22, z22⟩, st22⟩ := X20.virtualBack hx (y := (⟨"com/example/score_on_crawl/scoreoncrawl/engine/BreadthFirstSequence", "fetched", "(I[II)V"⟩ : MethodName)) (z := (⟨"com/example/score_on_crawl/scoreoncrawl/engine/BreadthFirstSequence", "fetched", "(I[II)V"⟩ : MethodName)) hown (mvT hZ (hw _ (List.mem_of_getElem? (i := 65) rfl))) (mvT hZ (hw _ (List.mem_of_getElem? (i := 66) rfl))) (notFace_of_selects (args := #[]) (mvT hZ (hw _ (List.mem_of_getElem? (i := 68) rfl)))) (mvT hZ (hw _ (List.mem_of_getElem? (i := 68) rfl))) (mvT hZ (hw _ (List.mem_of_getElem? (i := 67) rfl))) (by decide) (backOf (W := 0) (rm11 l Z a0 hw [] sq fp bs wa lk pg (own_c (own_or M (1 : Int32))) (1 : Int32) (0 : Int32) (own_c (own_or (own_or M (1 : Int32)) (0 : Int32))) (own_or M (1 : Int32)) T20.heap n0 sz20 ⟨S20.1, S20.2.1, S20.2.2.1, S20.2.2.2.1, ⟨S20.2.2.2.2.1, S20.2.2.2.2.2.1, ⟨S20.2.2.2.2.2.2.1, S20.2.2.2.2.2.2.2.1, S20.2.2.2.2.2.2.2.2.1, S20.2.2.2.2.2.2.2.2.2.1, S20.2.2.2.2.2.2.2.2.2.2⟩⟩⟩ Nn (Or.inr rfl) (own_ds (Or.inl rfl)) (own_gd (own_gd hm (Or.inr (Or.inl rfl))).2 (Or.inl rfl)).1) hZ (hw _ (List.mem_of_getElem? (i := 69) rfl)) (hw _ (List.mem_of_getElem? (i := 4) rfl)) (by decide) (by decide)) q22a q22c (g := (mkF m 38 #[.val (.ref sq), .val (.int fa), .val (.int fb), .val (.int fc), .val (.int ds), .val (.ref lk)] [(.int (0 : Int32)), (.ref lk), (.int (0 : Int32)), (.ref sq)])) rfl (by rw [hml]; rfl) (Steps.refl _) (argsL := [(.int (0 : Int32)), (.ref lk), (.int (0 : Int32))]) (rest := []) (lenOf pd_4 rfl) rfl (by show 2 * 0 + _ ≤ _; exact Nat.le_of_eq rfl) (hb hby d10_38) (fun _ _ => ⟨rfl, (rfl : T20.heap = T20.heap), (by decide : 0 + 0 ≤ _), (by decide : 0 + 0 ≤ _)⟩)
          dsimp only [Pt.U, Pt.locs, Pt.cells, Pt.slots] at X22 l22 y22 z22 st22 hQ22
          subst l22 y22 z22
          refine own_by (fun t kk_ => st22.trans kk_) ?_
          obtain ⟨rfl, N22q, S22⟩ := hQ22
          have N22 := Fr.app N20 N22q
          have sz22 : n0 ≤ T22.heap.size := Nat.le_trans Nn.1 (Nat.le_of_lt (Exa.lt S22.1))
          show OwnG p e below s _ _ _ (T22.setTop (mkF m 41 #[.val (.ref sq), .val (.int fa), .val (.int fb), .val (.int fc), .val (.int ds), .val (.ref lk)] []))
          refine own_by (fun t kk_ => XS.goto X22.here hx rfl (pc0 := 41) (pc' := 80) rfl (hb hby d10_41) (by decide) (by decide) kk_) ?_
          show OwnG p e below s _ _ _ (T22.setTop (mkF m 80 #[.val (.ref sq), .val (.int fa), .val (.int fb), .val (.int fc), .val (.int ds), .val (.ref lk)] []))
          exact own_outV X22 hx hret hlk (hb hby d10_80) (by show _ ∧ _; rw [(rfl : T22.heap = T22.heap), show own_set M fa fb fc = (own_or (own_or M (1 : Int32)) (0 : Int32)) from by simp [own_set, own_o, own_cm _ 2 1, own_cm _ 2 0, own_cm _ 1 0, hb2_1, hb6_16, hb18_17, hb30_21]]; exact ⟨rfl, N22, (1 : Int32), (own_gd (own_gd hm (Or.inr (Or.inl rfl))).2 (Or.inl rfl)).2, (Or.inr rfl), ⟨S22.1, S22.2.1, S22.2.2.1, S22.2.2.2.1, ⟨S22.2.2.2.2.1, S22.2.2.2.2.2.1, ⟨S22.2.2.2.2.2.2.1, S22.2.2.2.2.2.2.2.1, S22.2.2.2.2.2.2.2.2.1, S22.2.2.2.2.2.2.2.2.2.1, S22.2.2.2.2.2.2.2.2.2.2⟩⟩⟩⟩) (by decide) (by decide)
    · refine own_by (fun t kk_ => XS.ifNo X0.here hx rfl (hb hby d10_6) rfl ((if0 _ _).trans (feq hb6_16).1) kk_) ?_
      show OwnG p e below s _ _ _ (s₁.setTop (mkF m 9 #[.val (.ref sq), .val (.int fa), .val (.int fb), .val (.int fc), .val (.int ds), .val (.ref lk)] []))
      refine own_by (fun t kk_ => XS.aloadN X0.here hx rfl (hb hby d10_9) rfl rfl kk_) ?_
      show OwnG p e below s _ _ _ (s₁.setTop (mkF m 10 #[.val (.ref sq), .val (.int fa), .val (.int fb), .val (.int fc), .val (.int ds), .val (.ref lk)] [(.ref sq)]))
      refine own_by (fun t kk_ => XS.iconst X0.here hx rfl (hb hby d10_10) kk_) ?_
      show OwnG p e below s _ _ _ (s₁.setTop (mkF m 11 #[.val (.ref sq), .val (.int fa), .val (.int fb), .val (.int fc), .val (.int ds), .val (.ref lk)] [(.int (2 : Int32)), (.ref sq)]))
      refine own_by (fun t kk_ => XS.aload X0.here hx rfl (hb hby d10_11) rfl rfl kk_) ?_
      show OwnG p e below s _ _ _ (s₁.setTop (mkF m 13 #[.val (.ref sq), .val (.int fa), .val (.int fb), .val (.int fc), .val (.int ds), .val (.ref lk)] [(.ref lk), (.int (2 : Int32)), (.ref sq)]))
      refine own_by (fun t kk_ => XS.iconst X0.here hx rfl (hb hby d10_13) kk_) ?_
      show OwnG p e below s _ _ _ (s₁.setTop (mkF m 14 #[.val (.ref sq), .val (.int fa), .val (.int fb), .val (.int fc), .val (.int ds), .val (.ref lk)] [(.int (0 : Int32)), (.ref lk), (.int (2 : Int32)), (.ref sq)]))
      obtain ⟨cq23, kq23, q23a, q23b, q23c⟩ := isOf hZ e0 Sb.1
      obtain ⟨_, _, ⟨T23, L23, k23, n23⟩, -, X23, ⟨Lc23, hQ23, l23, y23, z23⟩, st23⟩ := X0.virtualBack hx (y := (⟨"com/example/score_on_crawl/scoreoncrawl/engine/BreadthFirstSequence", "fetched", "(I[II)V"⟩ : MethodName)) (z := (⟨"com/example/score_on_crawl/scoreoncrawl/engine/BreadthFirstSequence", "fetched", "(I[II)V"⟩ : MethodName)) hown (mvT hZ (hw _ (List.mem_of_getElem? (i := 65) rfl))) (mvT hZ (hw _ (List.mem_of_getElem? (i := 66) rfl))) (notFace_of_selects (args := #[]) (mvT hZ (hw _ (List.mem_of_getElem? (i := 68) rfl)))) (mvT hZ (hw _ (List.mem_of_getElem? (i := 68) rfl))) (mvT hZ (hw _ (List.mem_of_getElem? (i := 67) rfl))) (by decide) (backOf (W := 0) (rm11 l Z a0 hw [] sq fp bs wa lk pg cu u (2 : Int32) (own_c (own_or M (2 : Int32))) M h0 n0 Z0 ⟨Sb.1, Sb.2.1, Sb.2.2.1, Sb.2.2.2.1, ⟨Sb.2.2.2.2.1, Sb.2.2.2.2.2.1, ⟨Sb.2.2.2.2.2.2.1, Sb.2.2.2.2.2.2.2.1, Sb.2.2.2.2.2.2.2.2.1, Sb.2.2.2.2.2.2.2.2.2.1, Sb.2.2.2.2.2.2.2.2.2.2⟩⟩⟩ Nn hu (own_ds (Or.inr (Or.inr rfl))) (by rw [hc]; exact (own_gd hm (Or.inr (Or.inr rfl))).1)) hZ (hw _ (List.mem_of_getElem? (i := 69) rfl)) (hw _ (List.mem_of_getElem? (i := 4) rfl)) (by decide) (by decide)) q23a q23c (g := (mkF m 14 #[.val (.ref sq), .val (.int fa), .val (.int fb), .val (.int fc), .val (.int ds), .val (.ref lk)] [(.int (0 : Int32)), (.ref lk), (.int (2 : Int32)), (.ref sq)])) rfl (by rw [hml]; rfl) (Steps.refl _) (argsL := [(.int (2 : Int32)), (.ref lk), (.int (0 : Int32))]) (rest := []) (lenOf pd_4 rfl) rfl (by show 2 * 0 + _ ≤ _; exact Nat.le_of_eq rfl) (hb hby d10_14) (fun _ _ => ⟨rfl, e0, (by decide : 0 + 0 ≤ _), (by decide : 0 + 0 ≤ _)⟩)
      dsimp only [Pt.U, Pt.locs, Pt.cells, Pt.slots] at X23 l23 y23 z23 st23 hQ23
      subst l23 y23 z23
      refine own_by (fun t kk_ => st23.trans kk_) ?_
      obtain ⟨rfl, N23q, S23⟩ := hQ23
      have N23 := Fr.app N0 N23q
      have sz23 : n0 ≤ T23.heap.size := Nat.le_trans Nn.1 (Nat.le_of_lt (Exa.lt S23.1))
      show OwnG p e below s _ _ _ (T23.setTop (mkF m 17 #[.val (.ref sq), .val (.int fa), .val (.int fb), .val (.int fc), .val (.int ds), .val (.ref lk)] []))
      refine own_by (fun t kk_ => XS.iloadN X23.here hx rfl (hb hby d10_17) rfl  kk_) ?_
      show OwnG p e below s _ _ _ (T23.setTop (mkF m 18 #[.val (.ref sq), .val (.int fa), .val (.int fb), .val (.int fc), .val (.int ds), .val (.ref lk)] [(.int fb)]))
      by_cases hb18_24 : fb = (0 : Int32)
      · refine own_by (fun t kk_ => XS.ifYes X23.here hx rfl (pc0 := 18) (pc' := 29) rfl (hb hby d10_18) rfl ((if0 _ _).trans (teq hb18_24).1) (by decide) (by decide) kk_) ?_
        show OwnG p e below s _ _ _ (T23.setTop (mkF m 29 #[.val (.ref sq), .val (.int fa), .val (.int fb), .val (.int fc), .val (.int ds), .val (.ref lk)] []))
        refine own_by (fun t kk_ => XS.iloadN X23.here hx rfl (hb hby d10_29) rfl  kk_) ?_
        show OwnG p e below s _ _ _ (T23.setTop (mkF m 30 #[.val (.ref sq), .val (.int fa), .val (.int fb), .val (.int fc), .val (.int ds), .val (.ref lk)] [(.int fa)]))
        by_cases hb30_25 : fa = (0 : Int32)
        · refine own_by (fun t kk_ => XS.ifYes X23.here hx rfl (pc0 := 30) (pc' := 80) rfl (hb hby d10_30) rfl ((if0 _ _).trans (teq hb30_25).1) (by decide) (by decide) kk_) ?_
          show OwnG p e below s _ _ _ (T23.setTop (mkF m 80 #[.val (.ref sq), .val (.int fa), .val (.int fb), .val (.int fc), .val (.int ds), .val (.ref lk)] []))
          exact own_outV X23 hx hret hlk (hb hby d10_80) (by show _ ∧ _; rw [(rfl : T23.heap = T23.heap), show own_set M fa fb fc = (own_or M (2 : Int32)) from by simp [own_set, own_o, own_cm _ 2 1, own_cm _ 2 0, own_cm _ 1 0, hb2_1, hb6_16, hb18_24, hb30_25]]; exact ⟨rfl, N23, (1 : Int32), (own_gd hm (Or.inr (Or.inr rfl))).2, (Or.inr rfl), ⟨S23.1, S23.2.1, S23.2.2.1, S23.2.2.2.1, ⟨S23.2.2.2.2.1, S23.2.2.2.2.2.1, ⟨S23.2.2.2.2.2.2.1, S23.2.2.2.2.2.2.2.1, S23.2.2.2.2.2.2.2.2.1, S23.2.2.2.2.2.2.2.2.2.1, S23.2.2.2.2.2.2.2.2.2.2⟩⟩⟩⟩) (by decide) (by decide)
        · refine own_by (fun t kk_ => XS.ifNo X23.here hx rfl (hb hby d10_30) rfl ((if0 _ _).trans (feq hb30_25).1) kk_) ?_
          show OwnG p e below s _ _ _ (T23.setTop (mkF m 33 #[.val (.ref sq), .val (.int fa), .val (.int fb), .val (.int fc), .val (.int ds), .val (.ref lk)] []))
          refine own_by (fun t kk_ => XS.aloadN X23.here hx rfl (hb hby d10_33) rfl rfl kk_) ?_
          show OwnG p e below s _ _ _ (T23.setTop (mkF m 34 #[.val (.ref sq), .val (.int fa), .val (.int fb), .val (.int fc), .val (.int ds), .val (.ref lk)] [(.ref sq)]))
          refine own_by (fun t kk_ => XS.iconst X23.here hx rfl (hb hby d10_34) kk_) ?_
          show OwnG p e below s _ _ _ (T23.setTop (mkF m 35 #[.val (.ref sq), .val (.int fa), .val (.int fb), .val (.int fc), .val (.int ds), .val (.ref lk)] [(.int (0 : Int32)), (.ref sq)]))
          refine own_by (fun t kk_ => XS.aload X23.here hx rfl (hb hby d10_35) rfl rfl kk_) ?_
          show OwnG p e below s _ _ _ (T23.setTop (mkF m 37 #[.val (.ref sq), .val (.int fa), .val (.int fb), .val (.int fc), .val (.int ds), .val (.ref lk)] [(.ref lk), (.int (0 : Int32)), (.ref sq)]))
          refine own_by (fun t kk_ => XS.iconst X23.here hx rfl (hb hby d10_37) kk_) ?_
          show OwnG p e below s _ _ _ (T23.setTop (mkF m 38 #[.val (.ref sq), .val (.int fa), .val (.int fb), .val (.int fc), .val (.int ds), .val (.ref lk)] [(.int (0 : Int32)), (.ref lk), (.int (0 : Int32)), (.ref sq)]))
          obtain ⟨cq26, kq26, q26a, q26b, q26c⟩ := isOf hZ (rfl : T23.heap = T23.heap) S23.1
          obtain ⟨_, _, ⟨T26, L26, k26, n26⟩, -, X26, ⟨Lc26, hQ26, l26, y26, z26⟩, st26⟩ := X23.virtualBack hx (y := (⟨"com/example/score_on_crawl/scoreoncrawl/engine/BreadthFirstSequence", "fetched", "(I[II)V"⟩ : MethodName)) (z := (⟨"com/example/score_on_crawl/scoreoncrawl/engine/BreadthFirstSequence", "fetched", "(I[II)V"⟩ : MethodName)) hown (mvT hZ (hw _ (List.mem_of_getElem? (i := 65) rfl))) (mvT hZ (hw _ (List.mem_of_getElem? (i := 66) rfl))) (notFace_of_selects (args := #[]) (mvT hZ (hw _ (List.mem_of_getElem? (i := 68) rfl)))) (mvT hZ (hw _ (List.mem_of_getElem? (i := 68) rfl))) (mvT hZ (hw _ (List.mem_of_getElem? (i := 67) rfl))) (by decide) (backOf (W := 0) (rm11 l Z a0 hw [] sq fp bs wa lk pg (own_c (own_or M (2 : Int32))) (1 : Int32) (0 : Int32) (own_c (own_or (own_or M (2 : Int32)) (0 : Int32))) (own_or M (2 : Int32)) T23.heap n0 sz23 ⟨S23.1, S23.2.1, S23.2.2.1, S23.2.2.2.1, ⟨S23.2.2.2.2.1, S23.2.2.2.2.2.1, ⟨S23.2.2.2.2.2.2.1, S23.2.2.2.2.2.2.2.1, S23.2.2.2.2.2.2.2.2.1, S23.2.2.2.2.2.2.2.2.2.1, S23.2.2.2.2.2.2.2.2.2.2⟩⟩⟩ Nn (Or.inr rfl) (own_ds (Or.inl rfl)) (own_gd (own_gd hm (Or.inr (Or.inr rfl))).2 (Or.inl rfl)).1) hZ (hw _ (List.mem_of_getElem? (i := 69) rfl)) (hw _ (List.mem_of_getElem? (i := 4) rfl)) (by decide) (by decide)) q26a q26c (g := (mkF m 38 #[.val (.ref sq), .val (.int fa), .val (.int fb), .val (.int fc), .val (.int ds), .val (.ref lk)] [(.int (0 : Int32)), (.ref lk), (.int (0 : Int32)), (.ref sq)])) rfl (by rw [hml]; rfl) (Steps.refl _) (argsL := [(.int (0 : Int32)), (.ref lk), (.int (0 : Int32))]) (rest := []) (lenOf pd_4 rfl) rfl (by show 2 * 0 + _ ≤ _; exact Nat.le_of_eq rfl) (hb hby d10_38) (fun _ _ => ⟨rfl, (rfl : T23.heap = T23.heap), (by decide : 0 + 0 ≤ _), (by decide : 0 + 0 ≤ _)⟩)
          dsimp only [Pt.U, Pt.locs, Pt.cells, Pt.slots] at X26 l26 y26 z26 st26 hQ26
          subst l26 y26 z26
          refine own_by (fun t kk_ => st26.trans kk_) ?_
          obtain ⟨rfl, N26q, S26⟩ := hQ26
          have N26 := Fr.app N23 N26q
          have sz26 : n0 ≤ T26.heap.size := Nat.le_trans Nn.1 (Nat.le_of_lt (Exa.lt S26.1))
          show OwnG p e below s _ _ _ (T26.setTop (mkF m 41 #[.val (.ref sq), .val (.int fa), .val (.int fb), .val (.int fc), .val (.int ds), .val (.ref lk)] []))
          refine own_by (fun t kk_ => XS.goto X26.here hx rfl (pc0 := 41) (pc' := 80) rfl (hb hby d10_41) (by decide) (by decide) kk_) ?_
          show OwnG p e below s _ _ _ (T26.setTop (mkF m 80 #[.val (.ref sq), .val (.int fa), .val (.int fb), .val (.int fc), .val (.int ds), .val (.ref lk)] []))
          exact own_outV X26 hx hret hlk (hb hby d10_80) (by show _ ∧ _; rw [(rfl : T26.heap = T26.heap), show own_set M fa fb fc = (own_or (own_or M (2 : Int32)) (0 : Int32)) from by simp [own_set, own_o, own_cm _ 2 1, own_cm _ 2 0, own_cm _ 1 0, hb2_1, hb6_16, hb18_24, hb30_25]]; exact ⟨rfl, N26, (1 : Int32), (own_gd (own_gd hm (Or.inr (Or.inr rfl))).2 (Or.inl rfl)).2, (Or.inr rfl), ⟨S26.1, S26.2.1, S26.2.2.1, S26.2.2.2.1, ⟨S26.2.2.2.2.1, S26.2.2.2.2.2.1, ⟨S26.2.2.2.2.2.2.1, S26.2.2.2.2.2.2.2.1, S26.2.2.2.2.2.2.2.2.1, S26.2.2.2.2.2.2.2.2.2.1, S26.2.2.2.2.2.2.2.2.2.2⟩⟩⟩⟩) (by decide) (by decide)
      · refine own_by (fun t kk_ => XS.ifNo X23.here hx rfl (hb hby d10_18) rfl ((if0 _ _).trans (feq hb18_24).1) kk_) ?_
        show OwnG p e below s _ _ _ (T23.setTop (mkF m 21 #[.val (.ref sq), .val (.int fa), .val (.int fb), .val (.int fc), .val (.int ds), .val (.ref lk)] []))
        refine own_by (fun t kk_ => XS.aloadN X23.here hx rfl (hb hby d10_21) rfl rfl kk_) ?_
        show OwnG p e below s _ _ _ (T23.setTop (mkF m 22 #[.val (.ref sq), .val (.int fa), .val (.int fb), .val (.int fc), .val (.int ds), .val (.ref lk)] [(.ref sq)]))
        refine own_by (fun t kk_ => XS.iconst X23.here hx rfl (hb hby d10_22) kk_) ?_
        show OwnG p e below s _ _ _ (T23.setTop (mkF m 23 #[.val (.ref sq), .val (.int fa), .val (.int fb), .val (.int fc), .val (.int ds), .val (.ref lk)] [(.int (1 : Int32)), (.ref sq)]))
        refine own_by (fun t kk_ => XS.aload X23.here hx rfl (hb hby d10_23) rfl rfl kk_) ?_
        show OwnG p e below s _ _ _ (T23.setTop (mkF m 25 #[.val (.ref sq), .val (.int fa), .val (.int fb), .val (.int fc), .val (.int ds), .val (.ref lk)] [(.ref lk), (.int (1 : Int32)), (.ref sq)]))
        refine own_by (fun t kk_ => XS.iconst X23.here hx rfl (hb hby d10_25) kk_) ?_
        show OwnG p e below s _ _ _ (T23.setTop (mkF m 26 #[.val (.ref sq), .val (.int fa), .val (.int fb), .val (.int fc), .val (.int ds), .val (.ref lk)] [(.int (0 : Int32)), (.ref lk), (.int (1 : Int32)), (.ref sq)]))
        obtain ⟨cq27, kq27, q27a, q27b, q27c⟩ := isOf hZ (rfl : T23.heap = T23.heap) S23.1
        obtain ⟨_, _, ⟨T27, L27, k27, n27⟩, -, X27, ⟨Lc27, hQ27, l27, y27, z27⟩, st27⟩ := X23.virtualBack hx (y := (⟨"com/example/score_on_crawl/scoreoncrawl/engine/BreadthFirstSequence", "fetched", "(I[II)V"⟩ : MethodName)) (z := (⟨"com/example/score_on_crawl/scoreoncrawl/engine/BreadthFirstSequence", "fetched", "(I[II)V"⟩ : MethodName)) hown (mvT hZ (hw _ (List.mem_of_getElem? (i := 65) rfl))) (mvT hZ (hw _ (List.mem_of_getElem? (i := 66) rfl))) (notFace_of_selects (args := #[]) (mvT hZ (hw _ (List.mem_of_getElem? (i := 68) rfl)))) (mvT hZ (hw _ (List.mem_of_getElem? (i := 68) rfl))) (mvT hZ (hw _ (List.mem_of_getElem? (i := 67) rfl))) (by decide) (backOf (W := 0) (rm11 l Z a0 hw [] sq fp bs wa lk pg (own_c (own_or M (2 : Int32))) (1 : Int32) (1 : Int32) (own_c (own_or (own_or M (2 : Int32)) (1 : Int32))) (own_or M (2 : Int32)) T23.heap n0 sz23 ⟨S23.1, S23.2.1, S23.2.2.1, S23.2.2.2.1, ⟨S23.2.2.2.2.1, S23.2.2.2.2.2.1, ⟨S23.2.2.2.2.2.2.1, S23.2.2.2.2.2.2.2.1, S23.2.2.2.2.2.2.2.2.1, S23.2.2.2.2.2.2.2.2.2.1, S23.2.2.2.2.2.2.2.2.2.2⟩⟩⟩ Nn (Or.inr rfl) (own_ds (Or.inr (Or.inl rfl))) (own_gd (own_gd hm (Or.inr (Or.inr rfl))).2 (Or.inr (Or.inl rfl))).1) hZ (hw _ (List.mem_of_getElem? (i := 69) rfl)) (hw _ (List.mem_of_getElem? (i := 4) rfl)) (by decide) (by decide)) q27a q27c (g := (mkF m 26 #[.val (.ref sq), .val (.int fa), .val (.int fb), .val (.int fc), .val (.int ds), .val (.ref lk)] [(.int (0 : Int32)), (.ref lk), (.int (1 : Int32)), (.ref sq)])) rfl (by rw [hml]; rfl) (Steps.refl _) (argsL := [(.int (1 : Int32)), (.ref lk), (.int (0 : Int32))]) (rest := []) (lenOf pd_4 rfl) rfl (by show 2 * 0 + _ ≤ _; exact Nat.le_of_eq rfl) (hb hby d10_26) (fun _ _ => ⟨rfl, (rfl : T23.heap = T23.heap), (by decide : 0 + 0 ≤ _), (by decide : 0 + 0 ≤ _)⟩)
        dsimp only [Pt.U, Pt.locs, Pt.cells, Pt.slots] at X27 l27 y27 z27 st27 hQ27
        subst l27 y27 z27
        refine own_by (fun t kk_ => st27.trans kk_) ?_
        obtain ⟨rfl, N27q, S27⟩ := hQ27
        have N27 := Fr.app N23 N27q
        have sz27 : n0 ≤ T27.heap.size := Nat.le_trans Nn.1 (Nat.le_of_lt (Exa.lt S27.1))
        show OwnG p e below s _ _ _ (T27.setTop (mkF m 29 #[.val (.ref sq), .val (.int fa), .val (.int fb), .val (.int fc), .val (.int ds), .val (.ref lk)] []))
        refine own_by (fun t kk_ => XS.iloadN X27.here hx rfl (hb hby d10_29) rfl  kk_) ?_
        show OwnG p e below s _ _ _ (T27.setTop (mkF m 30 #[.val (.ref sq), .val (.int fa), .val (.int fb), .val (.int fc), .val (.int ds), .val (.ref lk)] [(.int fa)]))
        by_cases hb30_28 : fa = (0 : Int32)
        · refine own_by (fun t kk_ => XS.ifYes X27.here hx rfl (pc0 := 30) (pc' := 80) rfl (hb hby d10_30) rfl ((if0 _ _).trans (teq hb30_28).1) (by decide) (by decide) kk_) ?_
          show OwnG p e below s _ _ _ (T27.setTop (mkF m 80 #[.val (.ref sq), .val (.int fa), .val (.int fb), .val (.int fc), .val (.int ds), .val (.ref lk)] []))
          exact own_outV X27 hx hret hlk (hb hby d10_80) (by show _ ∧ _; rw [(rfl : T27.heap = T27.heap), show own_set M fa fb fc = (own_or (own_or M (2 : Int32)) (1 : Int32)) from by simp [own_set, own_o, own_cm _ 2 1, own_cm _ 2 0, own_cm _ 1 0, hb2_1, hb6_16, hb18_24, hb30_28]]; exact ⟨rfl, N27, (1 : Int32), (own_gd (own_gd hm (Or.inr (Or.inr rfl))).2 (Or.inr (Or.inl rfl))).2, (Or.inr rfl), ⟨S27.1, S27.2.1, S27.2.2.1, S27.2.2.2.1, ⟨S27.2.2.2.2.1, S27.2.2.2.2.2.1, ⟨S27.2.2.2.2.2.2.1, S27.2.2.2.2.2.2.2.1, S27.2.2.2.2.2.2.2.2.1, S27.2.2.2.2.2.2.2.2.2.1, S27.2.2.2.2.2.2.2.2.2.2⟩⟩⟩⟩) (by decide) (by decide)
        · refine own_by (fun t kk_ => XS.ifNo X27.here hx rfl (hb hby d10_30) rfl ((if0 _ _).trans (feq hb30_28).1) kk_) ?_
          show OwnG p e below s _ _ _ (T27.setTop (mkF m 33 #[.val (.ref sq), .val (.int fa), .val (.int fb), .val (.int fc), .val (.int ds), .val (.ref lk)] []))
          refine own_by (fun t kk_ => XS.aloadN X27.here hx rfl (hb hby d10_33) rfl rfl kk_) ?_
          show OwnG p e below s _ _ _ (T27.setTop (mkF m 34 #[.val (.ref sq), .val (.int fa), .val (.int fb), .val (.int fc), .val (.int ds), .val (.ref lk)] [(.ref sq)]))
          refine own_by (fun t kk_ => XS.iconst X27.here hx rfl (hb hby d10_34) kk_) ?_
          show OwnG p e below s _ _ _ (T27.setTop (mkF m 35 #[.val (.ref sq), .val (.int fa), .val (.int fb), .val (.int fc), .val (.int ds), .val (.ref lk)] [(.int (0 : Int32)), (.ref sq)]))
          refine own_by (fun t kk_ => XS.aload X27.here hx rfl (hb hby d10_35) rfl rfl kk_) ?_
          show OwnG p e below s _ _ _ (T27.setTop (mkF m 37 #[.val (.ref sq), .val (.int fa), .val (.int fb), .val (.int fc), .val (.int ds), .val (.ref lk)] [(.ref lk), (.int (0 : Int32)), (.ref sq)]))
          refine own_by (fun t kk_ => XS.iconst X27.here hx rfl (hb hby d10_37) kk_) ?_
          show OwnG p e below s _ _ _ (T27.setTop (mkF m 38 #[.val (.ref sq), .val (.int fa), .val (.int fb), .val (.int fc), .val (.int ds), .val (.ref lk)] [(.int (0 : Int32)), (.ref lk), (.int (0 : Int32)), (.ref sq)]))
          obtain ⟨cq29, kq29, q29a, q29b, q29c⟩ := isOf hZ (rfl : T27.heap = T27.heap) S27.1
          obtain ⟨_, _, ⟨T29, L29, k29, n29⟩, -, X29, ⟨Lc29, hQ29, l29, y29, z29⟩, st29⟩ := X27.virtualBack hx (y := (⟨"com/example/score_on_crawl/scoreoncrawl/engine/BreadthFirstSequence", "fetched", "(I[II)V"⟩ : MethodName)) (z := (⟨"com/example/score_on_crawl/scoreoncrawl/engine/BreadthFirstSequence", "fetched", "(I[II)V"⟩ : MethodName)) hown (mvT hZ (hw _ (List.mem_of_getElem? (i := 65) rfl))) (mvT hZ (hw _ (List.mem_of_getElem? (i := 66) rfl))) (notFace_of_selects (args := #[]) (mvT hZ (hw _ (List.mem_of_getElem? (i := 68) rfl)))) (mvT hZ (hw _ (List.mem_of_getElem? (i := 68) rfl))) (mvT hZ (hw _ (List.mem_of_getElem? (i := 67) rfl))) (by decide) (backOf (W := 0) (rm11 l Z a0 hw [] sq fp bs wa lk pg (own_c (own_or (own_or M (2 : Int32)) (1 : Int32))) (1 : Int32) (0 : Int32) (own_c (own_or (own_or (own_or M (2 : Int32)) (1 : Int32)) (0 : Int32))) (own_or (own_or M (2 : Int32)) (1 : Int32)) T27.heap n0 sz27 ⟨S27.1, S27.2.1, S27.2.2.1, S27.2.2.2.1, ⟨S27.2.2.2.2.1, S27.2.2.2.2.2.1, ⟨S27.2.2.2.2.2.2.1, S27.2.2.2.2.2.2.2.1, S27.2.2.2.2.2.2.2.2.1, S27.2.2.2.2.2.2.2.2.2.1, S27.2.2.2.2.2.2.2.2.2.2⟩⟩⟩ Nn (Or.inr rfl) (own_ds (Or.inl rfl)) (own_gd (own_gd (own_gd hm (Or.inr (Or.inr rfl))).2 (Or.inr (Or.inl rfl))).2 (Or.inl rfl)).1) hZ (hw _ (List.mem_of_getElem? (i := 69) rfl)) (hw _ (List.mem_of_getElem? (i := 4) rfl)) (by decide) (by decide)) q29a q29c (g := (mkF m 38 #[.val (.ref sq), .val (.int fa), .val (.int fb), .val (.int fc), .val (.int ds), .val (.ref lk)] [(.int (0 : Int32)), (.ref lk), (.int (0 : Int32)), (.ref sq)])) rfl (by rw [hml]; rfl) (Steps.refl _) (argsL := [(.int (0 : Int32)), (.ref lk), (.int (0 : Int32))]) (rest := []) (lenOf pd_4 rfl) rfl (by show 2 * 0 + _ ≤ _; exact Nat.le_of_eq rfl) (hb hby d10_38) (fun _ _ => ⟨rfl, (rfl : T27.heap = T27.heap), (by decide : 0 + 0 ≤ _), (by decide : 0 + 0 ≤ _)⟩)
          dsimp only [Pt.U, Pt.locs, Pt.cells, Pt.slots] at X29 l29 y29 z29 st29 hQ29
          subst l29 y29 z29
          refine own_by (fun t kk_ => st29.trans kk_) ?_
          obtain ⟨rfl, N29q, S29⟩ := hQ29
          have N29 := Fr.app N27 N29q
          have sz29 : n0 ≤ T29.heap.size := Nat.le_trans Nn.1 (Nat.le_of_lt (Exa.lt S29.1))
          show OwnG p e below s _ _ _ (T29.setTop (mkF m 41 #[.val (.ref sq), .val (.int fa), .val (.int fb), .val (.int fc), .val (.int ds), .val (.ref lk)] []))
          refine own_by (fun t kk_ => XS.goto X29.here hx rfl (pc0 := 41) (pc' := 80) rfl (hb hby d10_41) (by decide) (by decide) kk_) ?_
          show OwnG p e below s _ _ _ (T29.setTop (mkF m 80 #[.val (.ref sq), .val (.int fa), .val (.int fb), .val (.int fc), .val (.int ds), .val (.ref lk)] []))
          exact own_outV X29 hx hret hlk (hb hby d10_80) (by show _ ∧ _; rw [(rfl : T29.heap = T29.heap), show own_set M fa fb fc = (own_or (own_or (own_or M (2 : Int32)) (1 : Int32)) (0 : Int32)) from by simp [own_set, own_o, own_cm _ 2 1, own_cm _ 2 0, own_cm _ 1 0, hb2_1, hb6_16, hb18_24, hb30_28]]; exact ⟨rfl, N29, (1 : Int32), (own_gd (own_gd (own_gd hm (Or.inr (Or.inr rfl))).2 (Or.inr (Or.inl rfl))).2 (Or.inl rfl)).2, (Or.inr rfl), ⟨S29.1, S29.2.1, S29.2.2.1, S29.2.2.2.1, ⟨S29.2.2.2.2.1, S29.2.2.2.2.2.1, ⟨S29.2.2.2.2.2.2.1, S29.2.2.2.2.2.2.2.1, S29.2.2.2.2.2.2.2.2.1, S29.2.2.2.2.2.2.2.2.2.1, S29.2.2.2.2.2.2.2.2.2.2⟩⟩⟩⟩) (by decide) (by decide)
theorem d8_0 : decode prog_2_method_4_code 0 = .ok (.aload_n 0, 1) := by decide +kernel
theorem d8_1 : decode prog_2_method_4_code 1 = .ok (.getfield 24, 3) := by decide +kernel
theorem d8_4 : decode prog_2_method_4_code 4 = .ok (.aload_n 0, 1) := by decide +kernel
theorem d8_5 : decode prog_2_method_4_code 5 = .ok (.getfield 16, 3) := by decide +kernel
theorem d8_8 : decode prog_2_method_4_code 8 = .ok (.if_icmp .ge 7, 3) := by decide +kernel
theorem d8_11 : decode prog_2_method_4_code 11 = .ok (.iconst 1, 1) := by decide +kernel
theorem d8_12 : decode prog_2_method_4_code 12 = .ok (.goto 4, 3) := by decide +kernel
theorem d8_15 : decode prog_2_method_4_code 15 = .ok (.iconst 0, 1) := by decide +kernel
theorem d8_16 : decode prog_2_method_4_code 16 = .ok (.ireturn, 1) := by decide +kernel
theorem ef_8 (m : MethodId) (x0 : Addr) : entryFrame m #[(.ref x0)] 1 = mkF m 0 #[.val (.ref x0)] [] := by first | (simp [entryFrame, mkF, argsToLocals, Value.category]; done) | rfl
def Q8 (Z : State) (sq fp bs wa : Addr) (pg cu u : Int32) (M : Int64) (h0 : Heap) (n0 : Nat) (v : Option Value) (h : Heap) (L : List Loc) : Prop := v = some (.int (own_lt cu pg)) ∧ Fr n0 L ∧ h = h0
set_option maxRecDepth 65536 in
set_option maxHeartbeats 40000000 in
theorem rm8 (l : Launch) (Z : State) (a0 : Array Value) (hw : ∀ d ∈ tables_1, d.before a0 Z = true) (ws : List Jvm.Cond) (sq fp bs wa : Addr) (pg cu u : Int32) (M : Int64) (h0 : Heap) (n0 : Nat) (Z0 : n0 ≤ h0.size) (Sb : own_S Z h0 sq fp bs wa pg cu u M) :
    MetFree l (⟨"com/example/score_on_crawl/scoreoncrawl/engine/BreadthFirstSequence", "hasNext", "()Z"⟩ : MethodName) (head1 (Jvm.Cond.code (⟨"com/example/score_on_crawl/scoreoncrawl/engine/BreadthFirstSequence", "hasNext", "()Z"⟩ : MethodName) prog_2_method_4_code 1 (some .boolean) :: ws) ({ frames := 0, cells := 0, slots := 0, locals := 0 } : Room)) (fun aa_ U => aa_ = #[(.ref sq)] ∧ Z.Warmed39 U.vm ∧ U.heap = h0) (fun _ _ _ _ _ => True) (fun _ U o U' => ∃ v L, o = .returned v ∧ Q8 Z sq fp bs wa pg cu u M h0 n0 v U'.heap L ∧ FrameEnd U o U' L ({ frames := 0, cells := 0, slots := 0, locals := 0 } : Room).cells ({ frames := 0, cells := 0, slots := 0, locals := 0 } : Room).slots) := by
  refine own_met (Q := fun v h L => Q8 Z sq fp bs wa pg cu u M h0 n0 v h L) (plainFor_of_name pn_4) ?_
  intro p e s m below meth c s₁ hx hby hml hret hlk hown hnm hZ X0 e0
  have N0 := Fr.nil n0
  rw [ef_8 m sq]
  show OwnG p e below s _ _ _ (s₁.setTop (mkF m 0 #[.val (.ref sq)] []))
  refine own_by (fun t kk_ => XS.aloadN X0.here hx rfl (hb hby d8_0) rfl rfl kk_) ?_
  show OwnG p e below s _ _ _ (s₁.setTop (mkF m 1 #[.val (.ref sq)] [(.ref sq)]))
  obtain ⟨T1, X1, e1, st1⟩ := getF X0 hx hZ hown (host := "") (Or.inl (hw _ (List.mem_of_getElem? (i := 53) rfl))) Via.refl e0 Sb.2.2.2.1 (g := (mkF m 1 #[.val (.ref sq)] [(.ref sq)])) rfl rfl (hb hby d8_1)
  refine own_by (fun t kk_ => st1 _ kk_) ?_
  show OwnG p e below s _ _ _ (T1.setTop (mkF m 4 #[.val (.ref sq)] [(.int cu)]))
  refine own_by (fun t kk_ => XS.aloadN X1.here hx rfl (hb hby d8_4) rfl rfl kk_) ?_
  show OwnG p e below s _ _ _ (T1.setTop (mkF m 5 #[.val (.ref sq)] [(.ref sq), (.int cu)]))
  obtain ⟨T2, X2, e2, st2⟩ := getF X1 hx hZ hown (host := "") (Or.inl (hw _ (List.mem_of_getElem? (i := 55) rfl))) Via.refl e1 Sb.2.2.1 (g := (mkF m 5 #[.val (.ref sq)] [(.ref sq), (.int cu)])) rfl rfl (hb hby d8_5)
  refine own_by (fun t kk_ => st2 _ kk_) ?_
  show OwnG p e below s _ _ _ (T2.setTop (mkF m 8 #[.val (.ref sq)] [(.int pg), (.int cu)]))
  by_cases hb8_3 : cu < pg
  · refine own_by (fun t kk_ => XS.icmpNo X2.here hx rfl (hb hby d8_8) rfl (tlt hb8_3).2.1 kk_) ?_
    show OwnG p e below s _ _ _ (T2.setTop (mkF m 11 #[.val (.ref sq)] []))
    refine own_by (fun t kk_ => XS.iconst X2.here hx rfl (hb hby d8_11) kk_) ?_
    show OwnG p e below s _ _ _ (T2.setTop (mkF m 12 #[.val (.ref sq)] [(.int (1 : Int32))]))
    refine own_by (fun t kk_ => XS.goto X2.here hx rfl (pc0 := 12) (pc' := 16) rfl (hb hby d8_12) (by decide) (by decide) kk_) ?_
    show OwnG p e below s _ _ _ (T2.setTop (mkF m 16 #[.val (.ref sq)] [(.int (1 : Int32))]))
    exact own_outN X2 hx hret (by simp) hlk (hb hby d8_16) rfl (⟨by simp [own_lt, nar, hb8_3], N0, e2⟩) (by decide) (by decide)
  · refine own_by (fun t kk_ => XS.icmpYes X2.here hx rfl (pc0 := 8) (pc' := 15) rfl (hb hby d8_8) rfl (flt hb8_3).2.1 (by decide) (by decide) kk_) ?_
    show OwnG p e below s _ _ _ (T2.setTop (mkF m 15 #[.val (.ref sq)] []))
    refine own_by (fun t kk_ => XS.iconst X2.here hx rfl (hb hby d8_15) kk_) ?_
    show OwnG p e below s _ _ _ (T2.setTop (mkF m 16 #[.val (.ref sq)] [(.int (0 : Int32))]))
    exact own_outN X2 hx hret (by simp) hlk (hb hby d8_16) rfl (⟨by simp [own_lt, nar, hb8_3], N0, e2⟩) (by decide) (by decide)
theorem d9_0 : decode prog_2_method_2_code 0 = .ok (.aload_n 0, 1) := by decide +kernel
theorem d9_1 : decode prog_2_method_2_code 1 = .ok (.dup, 1) := by decide +kernel
theorem d9_2 : decode prog_2_method_2_code 2 = .ok (.getfield 16, 3) := by decide +kernel
theorem d9_5 : decode prog_2_method_2_code 5 = .ok (.iconst 1, 1) := by decide +kernel
theorem d9_6 : decode prog_2_method_2_code 6 = .ok (.iadd, 1) := by decide +kernel
theorem d9_7 : decode prog_2_method_2_code 7 = .ok (.putfield 16, 3) := by decide +kernel
theorem d9_10 : decode prog_2_method_2_code 10 = .ok (.return_, 1) := by decide +kernel
theorem ef_9 (m : MethodId) (x0 : Addr) (x1 : Int32) (x2 : Int32) : entryFrame m #[(.ref x0), (.int x1), (.int x2)] 3 = mkF m 0 #[.val (.ref x0), .val (.int x1), .val (.int x2)] [] := by first | (simp [entryFrame, mkF, argsToLocals, Value.category]; done) | rfl
def Q9 (Z : State) (sq fp bs wa : Addr) (pg cu u d te pg' : Int32) (M : Int64) (h0 : Heap) (n0 : Nat) (v : Option Value) (h : Heap) (L : List Loc) : Prop := v = none ∧ Fr n0 L ∧ own_S Z h sq fp bs wa pg' cu u M
set_option maxRecDepth 65536 in
set_option maxHeartbeats 40000000 in
theorem rm9 (l : Launch) (Z : State) (a0 : Array Value) (hw : ∀ d ∈ tables_1, d.before a0 Z = true) (ws : List Jvm.Cond) (sq fp bs wa : Addr) (pg cu u d te pg' : Int32) (M : Int64) (h0 : Heap) (n0 : Nat) (Z0 : n0 ≤ h0.size) (Sb : own_S Z h0 sq fp bs wa pg cu u M) (Nn : own_N n0 sq fp bs wa) (hp : pg + 1 = pg') :
    MetFree l (⟨"com/example/score_on_crawl/scoreoncrawl/engine/BreadthFirstSequence", "added", "(IZ)V"⟩ : MethodName) (head1 (Jvm.Cond.code (⟨"com/example/score_on_crawl/scoreoncrawl/engine/BreadthFirstSequence", "added", "(IZ)V"⟩ : MethodName) prog_2_method_2_code 3 none :: ws) ({ frames := 0, cells := 0, slots := 0, locals := 0 } : Room)) (fun aa_ U => aa_ = #[(.ref sq), (.int d), (.int te)] ∧ Z.Warmed39 U.vm ∧ U.heap = h0) (fun _ _ _ _ _ => True) (fun _ U o U' => ∃ v L, o = .returned v ∧ Q9 Z sq fp bs wa pg cu u d te pg' M h0 n0 v U'.heap L ∧ FrameEnd U o U' L ({ frames := 0, cells := 0, slots := 0, locals := 0 } : Room).cells ({ frames := 0, cells := 0, slots := 0, locals := 0 } : Room).slots) := by
  refine own_met (Q := fun v h L => Q9 Z sq fp bs wa pg cu u d te pg' M h0 n0 v h L) (plainFor_of_name pn_4) ?_
  intro p e s m below meth c s₁ hx hby hml hret hlk hown hnm hZ X0 e0
  have N0 := Fr.nil n0
  rw [ef_9 m sq d te]
  show OwnG p e below s _ _ _ (s₁.setTop (mkF m 0 #[.val (.ref sq), .val (.int d), .val (.int te)] []))
  refine own_by (fun t kk_ => XS.aloadN X0.here hx rfl (hb hby d9_0) rfl rfl kk_) ?_
  show OwnG p e below s _ _ _ (s₁.setTop (mkF m 1 #[.val (.ref sq), .val (.int d), .val (.int te)] [(.ref sq)]))
  refine own_by (fun t kk_ => XS.dup X0.here hx rfl (hb hby d9_1) rfl rfl kk_) ?_
  show OwnG p e below s _ _ _ (s₁.setTop (mkF m 2 #[.val (.ref sq), .val (.int d), .val (.int te)] [(.ref sq), (.ref sq)]))
  obtain ⟨T1, X1, e1, st1⟩ := getF X0 hx hZ hown (host := "") (Or.inl (hw _ (List.mem_of_getElem? (i := 55) rfl))) Via.refl e0 Sb.2.2.1 (g := (mkF m 2 #[.val (.ref sq), .val (.int d), .val (.int te)] [(.ref sq), (.ref sq)])) rfl rfl (hb hby d9_2)
  refine own_by (fun t kk_ => st1 _ kk_) ?_
  show OwnG p e below s _ _ _ (T1.setTop (mkF m 5 #[.val (.ref sq), .val (.int d), .val (.int te)] [(.int pg), (.ref sq)]))
  refine own_by (fun t kk_ => XS.iconst X1.here hx rfl (hb hby d9_5) kk_) ?_
  show OwnG p e below s _ _ _ (T1.setTop (mkF m 6 #[.val (.ref sq), .val (.int d), .val (.int te)] [(.int (1 : Int32)), (.int pg), (.ref sq)]))
  refine own_by (fun t kk_ => XS.iadd X1.here hx rfl (hb hby d9_6) rfl kk_) ?_
  show OwnG p e below s _ _ _ (T1.setTop (mkF m 7 #[.val (.ref sq), .val (.int d), .val (.int te)] [(.int (pg + (1 : Int32))), (.ref sq)]))
  obtain ⟨T2, h2, X2, e2, W2, st2⟩ := putF X1 hx hZ hown (host := "") (Or.inl (hw _ (List.mem_of_getElem? (i := 55) rfl))) Via.refl e1 Sb.2.2.1 Sb.1 (Or.inl (hw _ (List.mem_of_getElem? (i := 56) rfl))) (hw _ (List.mem_of_getElem? (i := 3) rfl)) (ty := .int) (by decide) rfl rfl (g := (mkF m 7 #[.val (.ref sq), .val (.int d), .val (.int te)] [(.int (pg + (1 : Int32))), (.ref sq)])) rfl rfl (hb hby d9_7)
  refine own_by (fun t kk_ => st2 _ kk_) ?_
  have f3 := Exa.wr W2 Sb.1
  have f4 := Fld.other W2 Sb.2.1 (Or.inr (slot_ne (Or.inr (hw _ (List.mem_of_getElem? (i := 43) rfl))) (Or.inl (hw _ (List.mem_of_getElem? (i := 56) rfl))) (by decide) (t := (.object "com/example/score_on_crawl/scoreoncrawl/engine/FetchedPages")) (t' := .int) (by decide) (by decide)))
  have f6 := Fld.other W2 Sb.2.2.2.1 (Or.inr (slot_ne (Or.inl (hw _ (List.mem_of_getElem? (i := 54) rfl))) (Or.inl (hw _ (List.mem_of_getElem? (i := 56) rfl))) (by decide) (t := .int) (t' := .int) (by decide) (by decide)))
  have f7 := Exa.wr W2 Sb.2.2.2.2.1
  have f8 := Fld.other W2 Sb.2.2.2.2.2.1 (Or.inl (Ne.symm Nn.2.2.2.1))
  have f9 := Exa.wr W2 Sb.2.2.2.2.2.2.1
  have f10 := Fld.other W2 Sb.2.2.2.2.2.2.2.1 (Or.inl (Ne.symm Nn.2.2.2.2.1))
  have f11 := Fld.other W2 Sb.2.2.2.2.2.2.2.2.1 (Or.inl (Ne.symm Nn.2.2.2.2.1))
  have f12 := OwnA.other W2 Sb.2.2.2.2.2.2.2.2.2.1 (Ne.symm Nn.2.2.2.2.2.1)
  have f13 := Sta.wr W2 Sb.2.2.2.2.2.2.2.2.2.2
  have f14 := Fld.same W2 Sb.2.2.1
  have N2 := Fr.snoc X2 N0 Nn.1
  have sz2 : n0 ≤ h2.size := by rw [W2.size]; exact Z0
  show OwnG p e below s _ _ _ (T2.setTop (mkF m 10 #[.val (.ref sq), .val (.int d), .val (.int te)] []))
  exact own_outV X2 hx hret hlk (hb hby d9_10) (by show _ ∧ _; rw [← hp, e2]; exact ⟨rfl, N2, ⟨f3, f4, f14, f6, ⟨f7, f8, ⟨f9, f10, f11, f12, f13⟩⟩⟩⟩) (by decide) (by decide)
theorem d5_0 : decode jdk_92_method_6_code 0 = .ok (.aload_n 0, 1) := by decide +kernel
theorem d5_1 : decode jdk_92_method_6_code 1 = .ok (.iload_n 1, 1) := by decide +kernel
theorem d5_2 : decode jdk_92_method_6_code 2 = .ok (.iconst 1, 1) := by decide +kernel
theorem d5_3 : decode jdk_92_method_6_code 3 = .ok (.isub, 1) := by decide +kernel
theorem d5_4 : decode jdk_92_method_6_code 4 = .ok (.invokestatic 52, 3) := by decide +kernel
theorem d5_7 : decode jdk_92_method_6_code 7 = .ok (.iconst 1, 1) := by decide +kernel
theorem d5_8 : decode jdk_92_method_6_code 8 = .ok (.iadd, 1) := by decide +kernel
theorem d5_9 : decode jdk_92_method_6_code 9 = .ok (.newarray .long, 2) := by decide +kernel
theorem d5_11 : decode jdk_92_method_6_code 11 = .ok (.putfield 11, 3) := by decide +kernel
theorem d5_14 : decode jdk_92_method_6_code 14 = .ok (.return_, 1) := by decide +kernel
theorem ef_5 (m : MethodId) (x0 : Addr) (x1 : Int32) : entryFrame m #[(.ref x0), (.int x1)] 2 = mkF m 0 #[.val (.ref x0), .val (.int x1)] [] := by first | (simp [entryFrame, mkF, argsToLocals, Value.category]; done) | rfl
def Q5 (Z : State) (bs : Addr) (z : Int32) (h0 : Heap) (n0 : Nat) (v : Option Value) (h : Heap) (L : List Loc) : Prop := v = none ∧ Fr n0 L ∧ Keep h0 h [bs] ∧ ∃ wa, own_V Z h bs wa 0 0 ∧ bs ≠ wa ∧ h0.size ≤ wa ∧ Fld Z h bs "java/util/BitSet" "sizeIsSticky" "Z" (.int z)
set_option maxRecDepth 65536 in
set_option maxHeartbeats 40000000 in
theorem rm5 (l : Launch) (Z : State) (a0 : Array Value) (hw : ∀ d ∈ tables_1, d.before a0 Z = true) (ws : List Jvm.Cond) (bs : Addr) (z : Int32) (h0 : Heap) (n0 : Nat) (Z0 : n0 ≤ h0.size) (Ex : Exa Z h0 bs "java/util/BitSet") (Fwords : Fld Z h0 bs "java/util/BitSet" "words" "[J" .null) (FwordsInUse : Fld Z h0 bs "java/util/BitSet" "wordsInUse" "I" (.int (0 : Int32))) (FsizeIsSticky : Fld Z h0 bs "java/util/BitSet" "sizeIsSticky" "Z" (.int z)) (SA : Sta Z h0 "java/util/BitSet" "$assertionsDisabled" "Z" (.int (1 : Int32))) (g1 : n0 ≤ bs) :
    MetFree l (⟨"java/util/BitSet", "initWords", "(I)V"⟩ : MethodName) (head1 (Jvm.Cond.code (⟨"java/util/BitSet", "initWords", "(I)V"⟩ : MethodName) jdk_92_method_6_code 2 none :: ws) ({ frames := 1, cells := 1, slots := 1, locals := 13 } : Room)) (fun aa_ U => aa_ = #[(.ref bs), (.int (64 : Int32))] ∧ Z.Warmed39 U.vm ∧ U.heap = h0) (fun _ _ _ _ _ => True) (fun _ U o U' => ∃ v L, o = .returned v ∧ Q5 Z bs z h0 n0 v U'.heap L ∧ FrameEnd U o U' L ({ frames := 1, cells := 1, slots := 1, locals := 13 } : Room).cells ({ frames := 1, cells := 1, slots := 1, locals := 13 } : Room).slots) := by
  refine own_met (Q := fun v h L => Q5 Z bs z h0 n0 v h L) (plainFor_of_name pn_0) ?_
  intro p e s m below meth c s₁ hx hby hml hret hlk hown hnm hZ X0 e0
  have N0 := Fr.nil n0
  rw [ef_5 m bs (64 : Int32)]
  show OwnG p e below s _ _ _ (s₁.setTop (mkF m 0 #[.val (.ref bs), .val (.int (64 : Int32))] []))
  refine own_by (fun t kk_ => XS.aloadN X0.here hx rfl (hb hby d5_0) rfl rfl kk_) ?_
  show OwnG p e below s _ _ _ (s₁.setTop (mkF m 1 #[.val (.ref bs), .val (.int (64 : Int32))] [(.ref bs)]))
  refine own_by (fun t kk_ => XS.iloadN X0.here hx rfl (hb hby d5_1) rfl  kk_) ?_
  show OwnG p e below s _ _ _ (s₁.setTop (mkF m 2 #[.val (.ref bs), .val (.int (64 : Int32))] [(.int (64 : Int32)), (.ref bs)]))
  refine own_by (fun t kk_ => XS.iconst X0.here hx rfl (hb hby d5_2) kk_) ?_
  show OwnG p e below s _ _ _ (s₁.setTop (mkF m 3 #[.val (.ref bs), .val (.int (64 : Int32))] [(.int (1 : Int32)), (.int (64 : Int32)), (.ref bs)]))
  refine own_by (fun t kk_ => XS.isub X0.here hx rfl (hb hby d5_3) rfl kk_) ?_
  show OwnG p e below s _ _ _ (s₁.setTop (mkF m 4 #[.val (.ref bs), .val (.int (64 : Int32))] [(.int (63 : Int32)), (.ref bs)]))
  obtain ⟨_, _, ⟨T1, L1, k1, n1⟩, -, X1, ⟨Lc1, hQ1, l1, y1, z1⟩, st1⟩ := Jvm.LawKit.callS X0 hx (y := (⟨"java/util/BitSet", "wordIndex", "(I)I"⟩ : MethodName)) hown (mvT hZ (hw _ (List.mem_of_getElem? (i := 34) rfl))) (mvT hZ (hw _ (List.mem_of_getElem? (i := 35) rfl))) (mvT hZ (hw _ (List.mem_of_getElem? (i := 20) rfl))) (mvT hZ (hw _ (List.mem_of_getElem? (i := 36) rfl))) (by decide) (backOf (W := 1) (rm6 l Z a0 hw [] (63 : Int32) (0 : Int32) h0 n0 Z0 (by decide)) hZ (hw _ (List.mem_of_getElem? (i := 36) rfl)) (hw _ (List.mem_of_getElem? (i := 20) rfl)) (by decide) (by decide)) (g := (mkF m 4 #[.val (.ref bs), .val (.int (64 : Int32))] [(.int (63 : Int32)), (.ref bs)])) rfl (by rw [hml]; rfl) (argsL := [(.int (63 : Int32))]) (rest := [(.ref bs)]) (lenOf pd_1 rfl) rfl (by show 2 * 0 + _ ≤ _; exact Nat.le_of_eq rfl) (hb hby d5_4) (fun _ _ => ⟨rfl, e0, (by decide : 0 + 0 ≤ _), (by decide : 0 + 0 ≤ _)⟩)
  dsimp only [Pt.U, Pt.locs, Pt.cells, Pt.slots] at X1 l1 y1 z1 st1 hQ1
  subst l1 y1 z1
  refine own_by (fun t kk_ => st1 _ kk_) ?_
  obtain ⟨rfl, N1q, hh1⟩ := hQ1
  have N1 := Fr.app N0 N1q
  have f2 := Ex
  rw [← hh1] at f2
  have f3 := Fwords
  rw [← hh1] at f3
  have f4 := FwordsInUse
  rw [← hh1] at f4
  have f5 := FsizeIsSticky
  rw [← hh1] at f5
  have f6 := SA
  rw [← hh1] at f6
  have f7 : Keep h0 T1.heap [bs] := by rw [hh1]; exact (Keep.refl h0 [bs])
  have sz1 : n0 ≤ T1.heap.size := by rw [hh1]; exact Z0
  show OwnG p e below s _ _ _ (T1.setTop (mkF m 7 #[.val (.ref bs), .val (.int (64 : Int32))] [(.int (0 : Int32)), (.ref bs)]))
  refine own_by (fun t kk_ => XS.iconst X1.here hx rfl (hb hby d5_7) kk_) ?_
  show OwnG p e below s _ _ _ (T1.setTop (mkF m 8 #[.val (.ref bs), .val (.int (64 : Int32))] [(.int (1 : Int32)), (.int (0 : Int32)), (.ref bs)]))
  refine own_by (fun t kk_ => XS.iadd X1.here hx rfl (hb hby d5_8) rfl kk_) ?_
  show OwnG p e below s _ _ _ (T1.setTop (mkF m 9 #[.val (.ref bs), .val (.int (64 : Int32))] [(.int (1 : Int32)), (.ref bs)]))
  obtain ⟨T8, h8, k8, X8, e8, E8, A8, st8⟩ := newP X1 hx hZ (hw _ (List.mem_of_getElem? (i := 37) rfl)) (rfl : T1.heap = T1.heap) (g := (mkF m 9 #[.val (.ref bs), .val (.int (64 : Int32))] [(.int (1 : Int32)), (.ref bs)])) rfl (hb hby d5_9) rfl (by decide) (cap := 1) (by decide) (by decide) (by decide) (by decide)
  obtain ⟨wa, g8⟩ : ∃ z, z = T1.heap.size := ⟨_, rfl⟩
  rw [← g8] at A8 st8
  have ne9 : bs ≠ wa := fun q => absurd f2.lt (by rw [q, g8]; exact Nat.lt_irrefl _)
  have gg_wa : n0 ≤ wa := by rw [g8]; exact sz1
  have gh_wa : h0.size ≤ wa := by rw [g8]; exact f7.1
  have sz8 : n0 ≤ h8.size := Nat.le_trans sz1 E8.1
  refine own_by (fun t kk_ => st8 _ kk_) ?_
  have f10 := Exa.ext E8 f2
  have f11 := Fld.ext E8 f3
  have f12 := Fld.ext E8 f4
  have f13 := Fld.ext E8 f5
  have f14 := Sta.ext E8 f6
  have f15 := Keep.ext f7 E8
  have f16 : OwnA Z h8 wa .long 1 (fun _ => (defaultValue .long)) := OwnA.new A8 (n := 1) (by decide) rfl
  show OwnG p e below s _ _ _ (T8.setTop (mkF m 11 #[.val (.ref bs), .val (.int (64 : Int32))] [(.ref wa), (.ref bs)]))
  obtain ⟨T17, h17, X17, e17, W17, st17⟩ := putF X8 hx hZ hown (host := "") (Or.inl (hw _ (List.mem_of_getElem? (i := 38) rfl))) Via.refl e8 f11 f10 (Or.inl (hw _ (List.mem_of_getElem? (i := 39) rfl))) (hw _ (List.mem_of_getElem? (i := 19) rfl)) (ty := (.array .long)) (by decide) rfl rfl (g := (mkF m 11 #[.val (.ref bs), .val (.int (64 : Int32))] [(.ref wa), (.ref bs)])) rfl rfl (hb hby d5_11)
  refine own_by (fun t kk_ => st17 _ kk_) ?_
  have f18 := Exa.wr W17 f10
  have f20 := Fld.other W17 f12 (Or.inr (slot_ne (Or.inl (hw _ (List.mem_of_getElem? (i := 26) rfl))) (Or.inl (hw _ (List.mem_of_getElem? (i := 39) rfl))) (by decide) (t := .int) (t' := (.array .long)) (by decide) (by decide)))
  have f21 := Fld.other W17 f13 (Or.inr (slot_ne (Or.inl (hw _ (List.mem_of_getElem? (i := 28) rfl))) (Or.inl (hw _ (List.mem_of_getElem? (i := 39) rfl))) (by decide) (t := .boolean) (t' := (.array .long)) (by decide) (by decide)))
  have f22 := Sta.wr W17 f14
  have f23 := Keep.wr f15 W17 (Or.inl (by simp))
  have f24 := OwnA.other W17 f16 (Ne.symm ne9)
  have f25 := Fld.same W17 f11
  have N17 := Fr.snoc X17 N1 g1
  have sz17 : n0 ≤ h17.size := by rw [W17.size]; exact sz8
  show OwnG p e below s _ _ _ (T17.setTop (mkF m 14 #[.val (.ref bs), .val (.int (64 : Int32))] []))
  exact own_outV X17 hx hret hlk (hb hby d5_14) (by show _ ∧ _; rw [e17]; exact ⟨rfl, N17, f23, wa, ⟨f18, f25, f20, (own_one f24 rfl), f22⟩, ne9, gh_wa, f21⟩) (by decide) (by decide)
theorem d4_0 : decode jdk_92_method_4_code 0 = .ok (.aload_n 0, 1) := by decide +kernel
theorem d4_1 : decode jdk_92_method_4_code 1 = .ok (.invokespecial 21, 3) := by decide +kernel
theorem d4_4 : decode jdk_92_method_4_code 4 = .ok (.aload_n 0, 1) := by decide +kernel
theorem d4_5 : decode jdk_92_method_4_code 5 = .ok (.iconst 0, 1) := by decide +kernel
theorem d4_6 : decode jdk_92_method_4_code 6 = .ok (.putfield 7, 3) := by decide +kernel
theorem d4_9 : decode jdk_92_method_4_code 9 = .ok (.aload_n 0, 1) := by decide +kernel
theorem d4_10 : decode jdk_92_method_4_code 10 = .ok (.iconst 0, 1) := by decide +kernel
theorem d4_11 : decode jdk_92_method_4_code 11 = .ok (.putfield 24, 3) := by decide +kernel
theorem d4_14 : decode jdk_92_method_4_code 14 = .ok (.aload_n 0, 1) := by decide +kernel
theorem d4_15 : decode jdk_92_method_4_code 15 = .ok (.bipush 64, 2) := by decide +kernel
theorem d4_17 : decode jdk_92_method_4_code 17 = .ok (.invokevirtual 27, 3) := by decide +kernel
theorem d4_20 : decode jdk_92_method_4_code 20 = .ok (.aload_n 0, 1) := by decide +kernel
theorem d4_21 : decode jdk_92_method_4_code 21 = .ok (.iconst 0, 1) := by decide +kernel
theorem d4_22 : decode jdk_92_method_4_code 22 = .ok (.putfield 24, 3) := by decide +kernel
theorem d4_25 : decode jdk_92_method_4_code 25 = .ok (.return_, 1) := by decide +kernel
theorem ef_4 (m : MethodId) (x0 : Addr) : entryFrame m #[(.ref x0)] 1 = mkF m 0 #[.val (.ref x0)] [] := by first | (simp [entryFrame, mkF, argsToLocals, Value.category]; done) | rfl
def Q4 (Z : State) (bs : Addr) (h0 : Heap) (n0 : Nat) (v : Option Value) (h : Heap) (L : List Loc) : Prop := v = none ∧ Fr n0 L ∧ Keep h0 h [bs] ∧ ∃ wa, own_V Z h bs wa 0 0 ∧ bs ≠ wa ∧ h0.size ≤ wa
set_option maxRecDepth 65536 in
set_option maxHeartbeats 40000000 in
theorem rm4 (l : Launch) (Z : State) (a0 : Array Value) (hw : ∀ d ∈ tables_1, d.before a0 Z = true) (ws : List Jvm.Cond) (bs : Addr) (h0 : Heap) (n0 : Nat) (Z0 : n0 ≤ h0.size) (Ex : Exa Z h0 bs "java/util/BitSet") (Fwords : Fld Z h0 bs "java/util/BitSet" "words" "[J" .null) (FwordsInUse : Fld Z h0 bs "java/util/BitSet" "wordsInUse" "I" (.int (0 : Int32))) (FsizeIsSticky : Fld Z h0 bs "java/util/BitSet" "sizeIsSticky" "Z" (.int (0 : Int32))) (SA : Sta Z h0 "java/util/BitSet" "$assertionsDisabled" "Z" (.int (1 : Int32))) (g1 : n0 ≤ bs) :
    MetFree l (⟨"java/util/BitSet", "<init>", "()V"⟩ : MethodName) (head1 (Jvm.Cond.code (⟨"java/util/BitSet", "<init>", "()V"⟩ : MethodName) jdk_92_method_4_code 1 none :: ws) ({ frames := 2, cells := 1, slots := 1, locals := 26 } : Room)) (fun aa_ U => aa_ = #[(.ref bs)] ∧ Z.Warmed39 U.vm ∧ U.heap = h0) (fun _ _ _ _ _ => True) (fun _ U o U' => ∃ v L, o = .returned v ∧ Q4 Z bs h0 n0 v U'.heap L ∧ FrameEnd U o U' L ({ frames := 2, cells := 1, slots := 1, locals := 26 } : Room).cells ({ frames := 2, cells := 1, slots := 1, locals := 26 } : Room).slots) := by
  refine own_met (Q := fun v h L => Q4 Z bs h0 n0 v h L) (plainFor_of_name pn_0) ?_
  intro p e s m below meth c s₁ hx hby hml hret hlk hown hnm hZ X0 e0
  have N0 := Fr.nil n0
  rw [ef_4 m bs]
  show OwnG p e below s _ _ _ (s₁.setTop (mkF m 0 #[.val (.ref bs)] []))
  refine own_by (fun t kk_ => XS.aloadN X0.here hx rfl (hb hby d4_0) rfl rfl kk_) ?_
  show OwnG p e below s _ _ _ (s₁.setTop (mkF m 1 #[.val (.ref bs)] [(.ref bs)]))
  obtain ⟨T1, X1, e1, st1⟩ := initO X0 hx hZ hown (hw _ (List.mem_of_getElem? (i := 24) rfl)) (hw _ (List.mem_of_getElem? (i := 9) rfl)) (hw _ (List.mem_of_getElem? (i := 10) rfl)) e0 (g := (mkF m 1 #[.val (.ref bs)] [(.ref bs)])) rfl (by rw [hml]; rfl) rfl (hb hby d4_1) (by decide) (W := 0) (by show 2 * 0 + _ ≤ _; exact Nat.le_of_eq rfl) (by decide)
  refine own_by (fun t kk_ => st1 _ kk_) ?_
  show OwnG p e below s _ _ _ (T1.setTop (mkF m 4 #[.val (.ref bs)] []))
  refine own_by (fun t kk_ => XS.aloadN X1.here hx rfl (hb hby d4_4) rfl rfl kk_) ?_
  show OwnG p e below s _ _ _ (T1.setTop (mkF m 5 #[.val (.ref bs)] [(.ref bs)]))
  refine own_by (fun t kk_ => XS.iconst X1.here hx rfl (hb hby d4_5) kk_) ?_
  show OwnG p e below s _ _ _ (T1.setTop (mkF m 6 #[.val (.ref bs)] [(.int (0 : Int32)), (.ref bs)]))
  obtain ⟨T2, h2, X2, e2, W2, st2⟩ := putF X1 hx hZ hown (host := "") (Or.inl (hw _ (List.mem_of_getElem? (i := 25) rfl))) Via.refl e1 FwordsInUse Ex (Or.inl (hw _ (List.mem_of_getElem? (i := 26) rfl))) (hw _ (List.mem_of_getElem? (i := 19) rfl)) (ty := .int) (by decide) rfl rfl (g := (mkF m 6 #[.val (.ref bs)] [(.int (0 : Int32)), (.ref bs)])) rfl rfl (hb hby d4_6)
  refine own_by (fun t kk_ => st2 _ kk_) ?_
  have f3 := Exa.wr W2 Ex
  have f4 := Fld.other W2 Fwords (Or.inr (slot_ne (Or.inl (hw _ (List.mem_of_getElem? (i := 39) rfl))) (Or.inl (hw _ (List.mem_of_getElem? (i := 26) rfl))) (by decide) (t := (.array .long)) (t' := .int) (by decide) (by decide)))
  have f6 := Fld.other W2 FsizeIsSticky (Or.inr (slot_ne (Or.inl (hw _ (List.mem_of_getElem? (i := 28) rfl))) (Or.inl (hw _ (List.mem_of_getElem? (i := 26) rfl))) (by decide) (t := .boolean) (t' := .int) (by decide) (by decide)))
  have f7 := Sta.wr W2 SA
  have f8 := Keep.wr (Keep.refl h0 [bs]) W2 (Or.inl (by simp))
  have f9 := Fld.same W2 FwordsInUse
  have N2 := Fr.snoc X2 N0 g1
  have sz2 : n0 ≤ h2.size := by rw [W2.size]; exact Z0
  show OwnG p e below s _ _ _ (T2.setTop (mkF m 9 #[.val (.ref bs)] []))
  refine own_by (fun t kk_ => XS.aloadN X2.here hx rfl (hb hby d4_9) rfl rfl kk_) ?_
  show OwnG p e below s _ _ _ (T2.setTop (mkF m 10 #[.val (.ref bs)] [(.ref bs)]))
  refine own_by (fun t kk_ => XS.iconst X2.here hx rfl (hb hby d4_10) kk_) ?_
  show OwnG p e below s _ _ _ (T2.setTop (mkF m 11 #[.val (.ref bs)] [(.int (0 : Int32)), (.ref bs)]))
  obtain ⟨T10, h10, X10, e10, W10, st10⟩ := putFN X2 hx hZ hown (hw _ (List.mem_of_getElem? (i := 27) rfl)) Via.refl e2 f6 f3 (Or.inl (hw _ (List.mem_of_getElem? (i := 28) rfl))) (hw _ (List.mem_of_getElem? (i := 19) rfl)) (ty := .boolean) (v := (.int (0 : Int32))) (v' := (.int (nar .boolean (0 : Int32)))) (by decide) rfl (fits_nar_bool _) (g := (mkF m 11 #[.val (.ref bs)] [(.int (0 : Int32)), (.ref bs)])) rfl rfl (hb hby d4_11)
  refine own_by (fun t kk_ => st10 _ kk_) ?_
  have f11 := Exa.wr W10 f3
  have f12 := Fld.other W10 f4 (Or.inr (slot_ne (Or.inl (hw _ (List.mem_of_getElem? (i := 39) rfl))) (Or.inl (hw _ (List.mem_of_getElem? (i := 28) rfl))) (by decide) (t := (.array .long)) (t' := .boolean) (by decide) (by decide)))
  have f13 := Fld.other W10 f9 (Or.inr (slot_ne (Or.inl (hw _ (List.mem_of_getElem? (i := 26) rfl))) (Or.inl (hw _ (List.mem_of_getElem? (i := 28) rfl))) (by decide) (t := .int) (t' := .boolean) (by decide) (by decide)))
  have f15 := Sta.wr W10 f7
  have f16 := Keep.wr f8 W10 (Or.inl (by simp))
  have f17 := Fld.same W10 f6
  have N10 := Fr.snoc X10 N2 g1
  have sz10 : n0 ≤ h10.size := by rw [W10.size]; exact sz2
  show OwnG p e below s _ _ _ (T10.setTop (mkF m 14 #[.val (.ref bs)] []))
  refine own_by (fun t kk_ => XS.aloadN X10.here hx rfl (hb hby d4_14) rfl rfl kk_) ?_
  show OwnG p e below s _ _ _ (T10.setTop (mkF m 15 #[.val (.ref bs)] [(.ref bs)]))
  refine own_by (fun t kk_ => XS.bipush X10.here hx rfl (hb hby d4_15) kk_) ?_
  show OwnG p e below s _ _ _ (T10.setTop (mkF m 17 #[.val (.ref bs)] [(.int (64 : Int32)), (.ref bs)]))
  obtain ⟨cq18, q18, q18'⟩ := Exa.cell f11
  obtain ⟨_, _, ⟨T18, L18, k18, n18⟩, -, X18, ⟨Lc18, hQ18, l18, y18, z18⟩, st18⟩ := X10.privateBack hx (y := (⟨"java/util/BitSet", "initWords", "(I)V"⟩ : MethodName)) hown (mvT hZ (hw _ (List.mem_of_getElem? (i := 29) rfl))) (mvT hZ (hw _ (List.mem_of_getElem? (i := 30) rfl))) (own_selp hZ (y := (⟨"java/util/BitSet", "initWords", "(I)V"⟩ : MethodName)) (hw _ (List.mem_of_getElem? (i := 19) rfl)) (hw _ (List.mem_of_getElem? (i := 31) rfl)) (hw _ (List.mem_of_getElem? (i := 30) rfl)) (by decide)) (Cond.privateMethod_at (mvP hZ (hw _ (List.mem_of_getElem? (i := 31) rfl)) (args := #[]))) (mvT hZ (hw _ (List.mem_of_getElem? (i := 33) rfl))) (by decide) (backOf (W := 0) (rm5 l Z a0 hw [] bs (nar .boolean (0 : Int32)) h10 n0 sz10 f11 f12 f13 f17 f15 g1) hZ (hw _ (List.mem_of_getElem? (i := 33) rfl)) (hw _ (List.mem_of_getElem? (i := 20) rfl)) (by decide) (by decide)) (g := (mkF m 17 #[.val (.ref bs)] [(.int (64 : Int32)), (.ref bs)])) rfl (by rw [hml]; rfl) (Steps.refl _) (a := bs) (by rw [e10]; exact q18) q18' (argsL := [(.int (64 : Int32))]) (rest := []) (lenOf pd_0 rfl) rfl (by show 2 * 0 + _ ≤ _; exact Nat.le_of_eq rfl) (hb hby d4_17) (fun _ _ => ⟨rfl, e10, (by decide : 0 + 1 ≤ _), (by decide : 0 + 1 ≤ _)⟩)
  dsimp only [Pt.U, Pt.locs, Pt.cells, Pt.slots] at X18 l18 y18 z18 st18 hQ18
  subst l18 y18 z18
  refine own_by (fun t kk_ => st18.trans kk_) ?_
  obtain ⟨rfl, N18q, K18, wa, V18, nbw, ge, fsy⟩ := hQ18
  have N18 := Fr.app N10 N18q
  have sz18 : n0 ≤ T18.heap.size := Nat.le_trans sz10 K18.1
  have gwa : n0 ≤ wa := Nat.le_trans sz10 ge
  have ghw : h0.size ≤ wa := Nat.le_trans f16.1 ge
  have f19 := Exa.keep f11 K18
  have f21 := Keep.trans f16 K18 (allS (Or.inl (by simp)) all0)
  show OwnG p e below s _ _ _ (T18.setTop (mkF m 20 #[.val (.ref bs)] []))
  refine own_by (fun t kk_ => XS.aloadN X18.here hx rfl (hb hby d4_20) rfl rfl kk_) ?_
  show OwnG p e below s _ _ _ (T18.setTop (mkF m 21 #[.val (.ref bs)] [(.ref bs)]))
  refine own_by (fun t kk_ => XS.iconst X18.here hx rfl (hb hby d4_21) kk_) ?_
  show OwnG p e below s _ _ _ (T18.setTop (mkF m 22 #[.val (.ref bs)] [(.int (0 : Int32)), (.ref bs)]))
  obtain ⟨T22, h22, X22, e22, W22, st22⟩ := putFN X18 hx hZ hown (hw _ (List.mem_of_getElem? (i := 27) rfl)) Via.refl (rfl : T18.heap = T18.heap) fsy V18.1 (Or.inl (hw _ (List.mem_of_getElem? (i := 28) rfl))) (hw _ (List.mem_of_getElem? (i := 19) rfl)) (ty := .boolean) (v := (.int (0 : Int32))) (v' := (.int (nar .boolean (0 : Int32)))) (by decide) rfl (fits_nar_bool _) (g := (mkF m 22 #[.val (.ref bs)] [(.int (0 : Int32)), (.ref bs)])) rfl rfl (hb hby d4_22)
  refine own_by (fun t kk_ => st22 _ kk_) ?_
  have f23 := Exa.wr W22 V18.1
  have f24 := Keep.wr f21 W22 (Or.inl (by simp))
  have f25 := Fld.other W22 V18.2.1 (Or.inr (slot_ne (Or.inl (hw _ (List.mem_of_getElem? (i := 39) rfl))) (Or.inl (hw _ (List.mem_of_getElem? (i := 28) rfl))) (by decide) (t := (.array .long)) (t' := .boolean) (by decide) (by decide)))
  have f26 := Fld.other W22 V18.2.2.1 (Or.inr (slot_ne (Or.inl (hw _ (List.mem_of_getElem? (i := 26) rfl))) (Or.inl (hw _ (List.mem_of_getElem? (i := 28) rfl))) (by decide) (t := .int) (t' := .boolean) (by decide) (by decide)))
  have f27 := OwnA.other W22 V18.2.2.2.1 (Ne.symm nbw)
  have f28 := Sta.wr W22 V18.2.2.2.2
  have f30 := Fld.same W22 fsy
  have N22 := Fr.snoc X22 N18 g1
  have sz22 : n0 ≤ h22.size := by rw [W22.size]; exact sz18
  show OwnG p e below s _ _ _ (T22.setTop (mkF m 25 #[.val (.ref bs)] []))
  exact own_outV X22 hx hret hlk (hb hby d4_25) (by show _ ∧ _; rw [e22]; exact ⟨rfl, N22, f24, wa, ⟨f23, f25, f26, f27, f28⟩, nbw, ghw⟩) (by decide) (by decide)
theorem d3_0 : decode prog_8_method_1_code 0 = .ok (.aload_n 0, 1) := by decide +kernel
theorem d3_1 : decode prog_8_method_1_code 1 = .ok (.invokespecial 1, 3) := by decide +kernel
theorem d3_4 : decode prog_8_method_1_code 4 = .ok (.aload_n 0, 1) := by decide +kernel
theorem d3_5 : decode prog_8_method_1_code 5 = .ok (.new 7, 3) := by decide +kernel
theorem d3_8 : decode prog_8_method_1_code 8 = .ok (.dup, 1) := by decide +kernel
theorem d3_9 : decode prog_8_method_1_code 9 = .ok (.invokespecial 9, 3) := by decide +kernel
theorem d3_12 : decode prog_8_method_1_code 12 = .ok (.putfield 10, 3) := by decide +kernel
theorem d3_15 : decode prog_8_method_1_code 15 = .ok (.return_, 1) := by decide +kernel
theorem ef_3 (m : MethodId) (x0 : Addr) : entryFrame m #[(.ref x0)] 1 = mkF m 0 #[.val (.ref x0)] [] := by first | (simp [entryFrame, mkF, argsToLocals, Value.category]; done) | rfl
def Q3 (Z : State) (fp : Addr) (h0 : Heap) (n0 : Nat) (v : Option Value) (h : Heap) (L : List Loc) : Prop := v = none ∧ Fr n0 L ∧ Keep h0 h [fp] ∧ ∃ bs wa, own_T Z h fp bs wa 0 0 ∧ fp ≠ bs ∧ fp ≠ wa ∧ bs ≠ wa ∧ h0.size ≤ bs ∧ h0.size ≤ wa
set_option maxRecDepth 65536 in
set_option maxHeartbeats 40000000 in
theorem rm3 (l : Launch) (Z : State) (a0 : Array Value) (hw : ∀ d ∈ tables_1, d.before a0 Z = true) (ws : List Jvm.Cond) (fp : Addr) (h0 : Heap) (n0 : Nat) (Z0 : n0 ≤ h0.size) (Ex : Exa Z h0 fp "com/example/score_on_crawl/scoreoncrawl/engine/FetchedPages") (Ffetched : Fld Z h0 fp "com/example/score_on_crawl/scoreoncrawl/engine/FetchedPages" "fetched" "Ljava/util/BitSet;" .null) (SA : Sta Z h0 "java/util/BitSet" "$assertionsDisabled" "Z" (.int (1 : Int32))) (g1 : n0 ≤ fp) :
    MetFree l (⟨"com/example/score_on_crawl/scoreoncrawl/engine/FetchedPages", "<init>", "()V"⟩ : MethodName) (head1 (Jvm.Cond.code (⟨"com/example/score_on_crawl/scoreoncrawl/engine/FetchedPages", "<init>", "()V"⟩ : MethodName) prog_8_method_1_code 1 none :: ws) ({ frames := 3, cells := 2, slots := 4, locals := 40 } : Room)) (fun aa_ U => aa_ = #[(.ref fp)] ∧ Z.Warmed39 U.vm ∧ U.heap = h0) (fun _ _ _ _ _ => True) (fun _ U o U' => ∃ v L, o = .returned v ∧ Q3 Z fp h0 n0 v U'.heap L ∧ FrameEnd U o U' L ({ frames := 3, cells := 2, slots := 4, locals := 40 } : Room).cells ({ frames := 3, cells := 2, slots := 4, locals := 40 } : Room).slots) := by
  refine own_met (Q := fun v h L => Q3 Z fp h0 n0 v h L) (plainFor_of_name pn_1) ?_
  intro p e s m below meth c s₁ hx hby hml hret hlk hown hnm hZ X0 e0
  have N0 := Fr.nil n0
  rw [ef_3 m fp]
  show OwnG p e below s _ _ _ (s₁.setTop (mkF m 0 #[.val (.ref fp)] []))
  refine own_by (fun t kk_ => XS.aloadN X0.here hx rfl (hb hby d3_0) rfl rfl kk_) ?_
  show OwnG p e below s _ _ _ (s₁.setTop (mkF m 1 #[.val (.ref fp)] [(.ref fp)]))
  obtain ⟨T1, X1, e1, st1⟩ := initO X0 hx hZ hown (hw _ (List.mem_of_getElem? (i := 17) rfl)) (hw _ (List.mem_of_getElem? (i := 9) rfl)) (hw _ (List.mem_of_getElem? (i := 10) rfl)) e0 (g := (mkF m 1 #[.val (.ref fp)] [(.ref fp)])) rfl (by rw [hml]; rfl) rfl (hb hby d3_1) (by decide) (W := 0) (by show 2 * 0 + _ ≤ _; exact Nat.le_of_eq rfl) (by decide)
  refine own_by (fun t kk_ => st1 _ kk_) ?_
  show OwnG p e below s _ _ _ (T1.setTop (mkF m 4 #[.val (.ref fp)] []))
  refine own_by (fun t kk_ => XS.aloadN X1.here hx rfl (hb hby d3_4) rfl rfl kk_) ?_
  show OwnG p e below s _ _ _ (T1.setTop (mkF m 5 #[.val (.ref fp)] [(.ref fp)]))
  obtain ⟨T2, h2, X2, e2, E2, A2, D2, -, st2⟩ := newO X1 hx hZ hown (hw _ (List.mem_of_getElem? (i := 18) rfl)) (hw _ (List.mem_of_getElem? (i := 19) rfl)) (hw _ (List.mem_of_getElem? (i := 20) rfl)) e1 (g := (mkF m 5 #[.val (.ref fp)] [(.ref fp)])) rfl (hb hby d3_5) (by decide) (by decide)
  obtain ⟨bs, g2⟩ : ∃ z, z = h0.size := ⟨_, rfl⟩
  rw [← g2] at A2 D2 st2
  have ne3 : fp ≠ bs := fun q => absurd Ex.lt (by rw [q, g2]; exact Nat.lt_irrefl _)
  have gg_bs : n0 ≤ bs := by rw [g2]; exact Z0
  have gh_bs : h0.size ≤ bs := by rw [g2]; exact (Keep.refl h0 [fp]).1
  have sz2 : n0 ≤ h2.size := Nat.le_trans Z0 E2.1
  refine own_by (fun t kk_ => st2 _ kk_) ?_
  have f4 := Exa.ext E2 Ex
  have f5 := Fld.ext E2 Ffetched
  have f6 := Sta.ext E2 SA
  have f7 := Keep.ext (Keep.refl h0 [fp]) E2
  have f8 : Fld Z h2 bs "java/util/BitSet" "wordsInUse" "I" (.int (0 : Int32)) := D2 (Or.inl (hw _ (List.mem_of_getElem? (i := 26) rfl))) (ty := .int) (by decide)
  have f9 : Fld Z h2 bs "java/util/BitSet" "sizeIsSticky" "Z" (.int (0 : Int32)) := D2 (Or.inl (hw _ (List.mem_of_getElem? (i := 28) rfl))) (ty := .boolean) (by decide)
  have f10 : Fld Z h2 bs "java/util/BitSet" "words" "[J" .null := D2 (Or.inl (hw _ (List.mem_of_getElem? (i := 39) rfl))) (ty := (.array .long)) (by decide)
  show OwnG p e below s _ _ _ (T2.setTop (mkF m 8 #[.val (.ref fp)] [(.ref bs), (.ref fp)]))
  refine own_by (fun t kk_ => XS.dup X2.here hx rfl (hb hby d3_8) rfl rfl kk_) ?_
  show OwnG p e below s _ _ _ (T2.setTop (mkF m 9 #[.val (.ref fp)] [(.ref bs), (.ref bs), (.ref fp)]))
  obtain ⟨_, _, ⟨T11, L11, k11, n11⟩, -, X11, ⟨Lc11, hQ11, l11, y11, z11⟩, st11⟩ := X2.specialBack hx (y := (⟨"java/util/BitSet", "<init>", "()V"⟩ : MethodName)) rfl hown (mvT hZ (hw _ (List.mem_of_getElem? (i := 21) rfl))) (mvT hZ (hw _ (List.mem_of_getElem? (i := 22) rfl))) (mvT hZ (hw _ (List.mem_of_getElem? (i := 23) rfl))) (by decide) (backOf (W := 2) (rm4 l Z a0 hw [] bs h2 n0 sz2 A2 f10 f8 f9 f6 gg_bs) hZ (hw _ (List.mem_of_getElem? (i := 23) rfl)) (hw _ (List.mem_of_getElem? (i := 20) rfl)) (by decide) (by decide)) (g := (mkF m 9 #[.val (.ref fp)] [(.ref bs), (.ref bs), (.ref fp)])) rfl (by rw [hml]; rfl) (Steps.refl _) (a := bs) (argsL := []) (rest := [(.ref bs), (.ref fp)]) (lenOf pd_2 rfl) rfl (by show 2 * 0 + _ ≤ _; exact Nat.le_of_eq rfl) (hb hby d3_9) (fun _ _ => ⟨rfl, e2, (by decide : 0 + 1 + 1 ≤ _), (by decide : 0 + 3 + 1 ≤ _)⟩)
  dsimp only [Pt.U, Pt.locs, Pt.cells, Pt.slots] at X11 l11 y11 z11 st11 hQ11
  subst l11 y11 z11
  refine own_by (fun t kk_ => st11.trans kk_) ?_
  obtain ⟨rfl, N11q, K11, wa, V11, nbw, ge⟩ := hQ11
  have N11 := Fr.app N0 N11q
  have sz11 : n0 ≤ T11.heap.size := Nat.le_trans sz2 K11.1
  have gwa : n0 ≤ wa := Nat.le_trans sz2 ge
  have ghw : h0.size ≤ wa := Nat.le_trans f7.1 ge
  have nfw : fp ≠ wa := fun q => absurd (Exa.lt f4) (by rw [q]; exact Nat.not_lt.mpr ge)
  have f12 := Exa.keep f4 K11
  have f13 := Fld.keep f5 K11 (ninS ne3 nin0)
  have f15 := Keep.trans f7 K11 (allS (Or.inr gh_bs) all0)
  have f16 := Exa.keep A2 K11
  show OwnG p e below s _ _ _ (T11.setTop (mkF m 12 #[.val (.ref fp)] [(.ref bs), (.ref fp)]))
  obtain ⟨T17, h17, X17, e17, W17, st17⟩ := putF X11 hx hZ hown (host := "") (Or.inl (hw _ (List.mem_of_getElem? (i := 40) rfl))) Via.refl (rfl : T11.heap = T11.heap) f13 f12 (Or.inl (hw _ (List.mem_of_getElem? (i := 41) rfl))) (hw _ (List.mem_of_getElem? (i := 12) rfl)) (ty := (.object "java/util/BitSet")) (by decide) rfl rfl (g := (mkF m 12 #[.val (.ref fp)] [(.ref bs), (.ref fp)])) rfl rfl (hb hby d3_12)
  refine own_by (fun t kk_ => st17 _ kk_) ?_
  have f18 := Exa.wr W17 f12
  have f20 := Keep.wr f15 W17 (Or.inl (by simp))
  have f21 := Exa.wr W17 V11.1
  have f22 := Fld.other W17 V11.2.1 (Or.inl (Ne.symm ne3))
  have f23 := Fld.other W17 V11.2.2.1 (Or.inl (Ne.symm ne3))
  have f24 := OwnA.other W17 V11.2.2.2.1 (Ne.symm nfw)
  have f25 := Sta.wr W17 V11.2.2.2.2
  have f26 := Fld.same W17 f13
  have N17 := Fr.snoc X17 N11 g1
  have sz17 : n0 ≤ h17.size := by rw [W17.size]; exact sz11
  show OwnG p e below s _ _ _ (T17.setTop (mkF m 15 #[.val (.ref fp)] []))
  exact own_outV X17 hx hret hlk (hb hby d3_15) (by show _ ∧ _; rw [e17]; exact ⟨rfl, N17, f20, bs, wa, ⟨f18, f26, ⟨f21, f22, f23, f24, f25⟩⟩, ne3, nfw, nbw, gh_bs, ghw⟩) (by decide) (by decide)
theorem d1_0 : decode prog_2_method_1_code 0 = .ok (.aload_n 0, 1) := by decide +kernel
theorem d1_1 : decode prog_2_method_1_code 1 = .ok (.invokespecial 1, 3) := by decide +kernel
theorem d1_4 : decode prog_2_method_1_code 4 = .ok (.aload_n 0, 1) := by decide +kernel
theorem d1_5 : decode prog_2_method_1_code 5 = .ok (.new 7, 3) := by decide +kernel
theorem d1_8 : decode prog_2_method_1_code 8 = .ok (.dup, 1) := by decide +kernel
theorem d1_9 : decode prog_2_method_1_code 9 = .ok (.invokespecial 9, 3) := by decide +kernel
theorem d1_12 : decode prog_2_method_1_code 12 = .ok (.putfield 10, 3) := by decide +kernel
theorem d1_15 : decode prog_2_method_1_code 15 = .ok (.return_, 1) := by decide +kernel
theorem ef_1 (m : MethodId) (x0 : Addr) : entryFrame m #[(.ref x0)] 1 = mkF m 0 #[.val (.ref x0)] [] := by first | (simp [entryFrame, mkF, argsToLocals, Value.category]; done) | rfl
def Q1 (Z : State) (sq : Addr) (h0 : Heap) (n0 : Nat) (v : Option Value) (h : Heap) (L : List Loc) : Prop := v = none ∧ Fr n0 L ∧ ∃ fp bs wa, own_S Z h sq fp bs wa 0 0 0 0 ∧ own_N n0 sq fp bs wa
set_option maxRecDepth 65536 in
set_option maxHeartbeats 40000000 in
theorem rm1 (l : Launch) (Z : State) (a0 : Array Value) (hw : ∀ d ∈ tables_1, d.before a0 Z = true) (ws : List Jvm.Cond) (sq : Addr) (h0 : Heap) (n0 : Nat) (Z0 : n0 ≤ h0.size) (Ex : Exa Z h0 sq "com/example/score_on_crawl/scoreoncrawl/engine/BreadthFirstSequence") (Ffetched : Fld Z h0 sq "com/example/score_on_crawl/scoreoncrawl/engine/BreadthFirstSequence" "fetched" "Lcom/example/score_on_crawl/scoreoncrawl/engine/FetchedPages;" .null) (Fpages : Fld Z h0 sq "com/example/score_on_crawl/scoreoncrawl/engine/BreadthFirstSequence" "pages" "I" (.int (0 : Int32))) (Fcursor : Fld Z h0 sq "com/example/score_on_crawl/scoreoncrawl/engine/BreadthFirstSequence" "cursor" "I" (.int (0 : Int32))) (SA : Sta Z h0 "java/util/BitSet" "$assertionsDisabled" "Z" (.int (1 : Int32))) (g1 : n0 ≤ sq) :
    MetFree l (⟨"com/example/score_on_crawl/scoreoncrawl/engine/BreadthFirstSequence", "<init>", "()V"⟩ : MethodName) (head1 (Jvm.Cond.code (⟨"com/example/score_on_crawl/scoreoncrawl/engine/BreadthFirstSequence", "<init>", "()V"⟩ : MethodName) prog_2_method_1_code 1 none :: ws) ({ frames := 4, cells := 3, slots := 5, locals := 54 } : Room)) (fun aa_ U => aa_ = #[(.ref sq)] ∧ Z.Warmed39 U.vm ∧ U.heap = h0) (fun _ _ _ _ _ => True) (fun _ U o U' => ∃ v L, o = .returned v ∧ Q1 Z sq h0 n0 v U'.heap L ∧ FrameEnd U o U' L ({ frames := 4, cells := 3, slots := 5, locals := 54 } : Room).cells ({ frames := 4, cells := 3, slots := 5, locals := 54 } : Room).slots) := by
  refine own_met (Q := fun v h L => Q1 Z sq h0 n0 v h L) (plainFor_of_name pn_4) ?_
  intro p e s m below meth c s₁ hx hby hml hret hlk hown hnm hZ X0 e0
  have N0 := Fr.nil n0
  rw [ef_1 m sq]
  show OwnG p e below s _ _ _ (s₁.setTop (mkF m 0 #[.val (.ref sq)] []))
  refine own_by (fun t kk_ => XS.aloadN X0.here hx rfl (hb hby d1_0) rfl rfl kk_) ?_
  show OwnG p e below s _ _ _ (s₁.setTop (mkF m 1 #[.val (.ref sq)] [(.ref sq)]))
  obtain ⟨T1, X1, e1, st1⟩ := initO X0 hx hZ hown (hw _ (List.mem_of_getElem? (i := 8) rfl)) (hw _ (List.mem_of_getElem? (i := 9) rfl)) (hw _ (List.mem_of_getElem? (i := 10) rfl)) e0 (g := (mkF m 1 #[.val (.ref sq)] [(.ref sq)])) rfl (by rw [hml]; rfl) rfl (hb hby d1_1) (by decide) (W := 0) (by show 2 * 0 + _ ≤ _; exact Nat.le_of_eq rfl) (by decide)
  refine own_by (fun t kk_ => st1 _ kk_) ?_
  show OwnG p e below s _ _ _ (T1.setTop (mkF m 4 #[.val (.ref sq)] []))
  refine own_by (fun t kk_ => XS.aloadN X1.here hx rfl (hb hby d1_4) rfl rfl kk_) ?_
  show OwnG p e below s _ _ _ (T1.setTop (mkF m 5 #[.val (.ref sq)] [(.ref sq)]))
  obtain ⟨T2, h2, X2, e2, E2, A2, D2, -, st2⟩ := newO X1 hx hZ hown (hw _ (List.mem_of_getElem? (i := 11) rfl)) (hw _ (List.mem_of_getElem? (i := 12) rfl)) (hw _ (List.mem_of_getElem? (i := 13) rfl)) e1 (g := (mkF m 5 #[.val (.ref sq)] [(.ref sq)])) rfl (hb hby d1_5) (by decide) (by decide)
  obtain ⟨fp, g2⟩ : ∃ z, z = h0.size := ⟨_, rfl⟩
  rw [← g2] at A2 D2 st2
  have ne3 : sq ≠ fp := fun q => absurd Ex.lt (by rw [q, g2]; exact Nat.lt_irrefl _)
  have gg_fp : n0 ≤ fp := by rw [g2]; exact Z0
  have sz2 : n0 ≤ h2.size := Nat.le_trans Z0 E2.1
  refine own_by (fun t kk_ => st2 _ kk_) ?_
  have f4 := Exa.ext E2 Ex
  have f5 := Fld.ext E2 Ffetched
  have f6 := Fld.ext E2 Fpages
  have f7 := Fld.ext E2 Fcursor
  have f8 := Sta.ext E2 SA
  have f9 : Fld Z h2 fp "com/example/score_on_crawl/scoreoncrawl/engine/FetchedPages" "fetched" "Ljava/util/BitSet;" .null := D2 (Or.inl (hw _ (List.mem_of_getElem? (i := 41) rfl))) (ty := (.object "java/util/BitSet")) (by decide)
  show OwnG p e below s _ _ _ (T2.setTop (mkF m 8 #[.val (.ref sq)] [(.ref fp), (.ref sq)]))
  refine own_by (fun t kk_ => XS.dup X2.here hx rfl (hb hby d1_8) rfl rfl kk_) ?_
  show OwnG p e below s _ _ _ (T2.setTop (mkF m 9 #[.val (.ref sq)] [(.ref fp), (.ref fp), (.ref sq)]))
  obtain ⟨_, _, ⟨T10, L10, k10, n10⟩, -, X10, ⟨Lc10, hQ10, l10, y10, z10⟩, st10⟩ := X2.specialBack hx (y := (⟨"com/example/score_on_crawl/scoreoncrawl/engine/FetchedPages", "<init>", "()V"⟩ : MethodName)) rfl hown (mvT hZ (hw _ (List.mem_of_getElem? (i := 14) rfl))) (mvT hZ (hw _ (List.mem_of_getElem? (i := 15) rfl))) (mvT hZ (hw _ (List.mem_of_getElem? (i := 16) rfl))) (by decide) (backOf (W := 2) (rm3 l Z a0 hw [] fp h2 n0 sz2 A2 f9 f8 gg_fp) hZ (hw _ (List.mem_of_getElem? (i := 16) rfl)) (hw _ (List.mem_of_getElem? (i := 13) rfl)) (by decide) (by decide)) (g := (mkF m 9 #[.val (.ref sq)] [(.ref fp), (.ref fp), (.ref sq)])) rfl (by rw [hml]; rfl) (Steps.refl _) (a := fp) (argsL := []) (rest := [(.ref fp), (.ref sq)]) (lenOf pd_2 rfl) rfl (by show 2 * 0 + _ ≤ _; exact Nat.le_of_eq rfl) (hb hby d1_9) (fun _ _ => ⟨rfl, e2, (by decide : 0 + 1 + 2 ≤ _), (by decide : 0 + 1 + 4 ≤ _)⟩)
  dsimp only [Pt.U, Pt.locs, Pt.cells, Pt.slots] at X10 l10 y10 z10 st10 hQ10
  subst l10 y10 z10
  refine own_by (fun t kk_ => st10.trans kk_) ?_
  obtain ⟨rfl, N10q, K10, bs, wa, V10, nfb, nfw, nbw, geb, gew⟩ := hQ10
  have N10 := Fr.app N0 N10q
  have sz10 : n0 ≤ T10.heap.size := Nat.le_trans sz2 K10.1
  have gbs : n0 ≤ bs := Nat.le_trans sz2 geb
  have gwa : n0 ≤ wa := Nat.le_trans sz2 gew
  have nsb : sq ≠ bs := fun q => absurd (Exa.lt f4) (by rw [q]; exact Nat.not_lt.mpr geb)
  have nsw : sq ≠ wa := fun q => absurd (Exa.lt f4) (by rw [q]; exact Nat.not_lt.mpr gew)
  have f11 := Exa.keep f4 K10
  have f12 := Fld.keep f5 K10 (ninS ne3 nin0)
  have f13 := Fld.keep f6 K10 (ninS ne3 nin0)
  have f14 := Fld.keep f7 K10 (ninS ne3 nin0)
  have f16 := Exa.keep A2 K10
  show OwnG p e below s _ _ _ (T10.setTop (mkF m 12 #[.val (.ref sq)] [(.ref fp), (.ref sq)]))
  obtain ⟨T17, h17, X17, e17, W17, st17⟩ := putF X10 hx hZ hown (host := "") (Or.inl (hw _ (List.mem_of_getElem? (i := 42) rfl))) Via.refl (rfl : T10.heap = T10.heap) f12 f11 (Or.inr ⟨(hw _ (List.mem_of_getElem? (i := 43) rfl)), rfl, hnm⟩) (hw _ (List.mem_of_getElem? (i := 3) rfl)) (ty := (.object "com/example/score_on_crawl/scoreoncrawl/engine/FetchedPages")) (by decide) rfl rfl (g := (mkF m 12 #[.val (.ref sq)] [(.ref fp), (.ref sq)])) rfl rfl (hb hby d1_12)
  refine own_by (fun t kk_ => st17 _ kk_) ?_
  have f18 := Exa.wr W17 f11
  have f20 := Fld.other W17 f13 (Or.inr (slot_ne (Or.inl (hw _ (List.mem_of_getElem? (i := 56) rfl))) (Or.inr (hw _ (List.mem_of_getElem? (i := 43) rfl))) (by decide) (t := .int) (t' := (.object "com/example/score_on_crawl/scoreoncrawl/engine/FetchedPages")) (by decide) (by decide)))
  have f21 := Fld.other W17 f14 (Or.inr (slot_ne (Or.inl (hw _ (List.mem_of_getElem? (i := 54) rfl))) (Or.inr (hw _ (List.mem_of_getElem? (i := 43) rfl))) (by decide) (t := .int) (t' := (.object "com/example/score_on_crawl/scoreoncrawl/engine/FetchedPages")) (by decide) (by decide)))
  have f22 := Exa.wr W17 V10.1
  have f23 := Fld.other W17 V10.2.1 (Or.inl (Ne.symm ne3))
  have f24 := Exa.wr W17 V10.2.2.1
  have f25 := Fld.other W17 V10.2.2.2.1 (Or.inl (Ne.symm nsb))
  have f26 := Fld.other W17 V10.2.2.2.2.1 (Or.inl (Ne.symm nsb))
  have f27 := OwnA.other W17 V10.2.2.2.2.2.1 (Ne.symm nsw)
  have f28 := Sta.wr W17 V10.2.2.2.2.2.2
  have f29 := Fld.same W17 f12
  have N17 := Fr.snoc X17 N10 g1
  have sz17 : n0 ≤ h17.size := by rw [W17.size]; exact sz10
  show OwnG p e below s _ _ _ (T17.setTop (mkF m 15 #[.val (.ref sq)] []))
  exact own_outV X17 hx hret hlk (hb hby d1_15) (by show _ ∧ _; rw [e17]; exact ⟨rfl, N17, fp, bs, wa, ⟨f18, f29, f20, f21, ⟨f22, f23, ⟨f24, f25, f26, f27, f28⟩⟩⟩, g1, gbs, gwa, ne3, nsb, nsw, nfb, nfw, nbw⟩) (by decide) (by decide)
theorem pd_5 : parseMethodDescriptor "(IZ)V" = some ⟨[.int, .boolean], none⟩ := by decide +kernel
theorem pd_6 : parseMethodDescriptor "(Lcom/example/score_on_crawl/scoreoncrawl/engine/BreadthFirstSequence;ZZZ[I)V" = some ⟨[(.object "com/example/score_on_crawl/scoreoncrawl/engine/BreadthFirstSequence"), .boolean, .boolean, .boolean, (.array .int)], none⟩ := by decide +kernel
theorem pd_7 : parseMethodDescriptor "()Z" = some ⟨[], some .boolean⟩ := by decide +kernel
theorem pd_8 : parseMethodDescriptor "(Lcom/example/score_on_crawl/scoreoncrawl/engine/BreadthFirstSequence;ZZZZ[I)V" = some ⟨[(.object "com/example/score_on_crawl/scoreoncrawl/engine/BreadthFirstSequence"), .boolean, .boolean, .boolean, .boolean, (.array .int)], none⟩ := by decide +kernel
set_option maxRecDepth 65536 in
set_option maxHeartbeats 40000000 in
theorem own_t359 {p : Program} {l : Launch} {e : Env} {s : State} {m : MethodId} {args : Array Value} {below : List Frame} {meth : Method} {c : Code} {T0 : State} {locs : List Loc} {Z : State} {a0 : Array Value} {h0 : Heap} {n0 : Nat} (va vb vc vd ve k1 k2 k3 ds te pa pb qa qb qc y1 y2 x19 x20 x21 x23 : Int32) (lk sq : Addr) (X0 : Stand p l e room_1 s m args below meth c T0 locs (0 + 1 + 1 + 3) (0 + 0 + 3 + 5)) (hx : p.tables.exec = Jvm.exec) (hby : c.code = code) (hml : c.maxLocals = 24) (hret : meth.sig.returnType = some .boolean) (hlk : meth.locks = false) (hown : s.vm.findClass "com/example/score_on_crawl/scoreoncrawl/engine/BreadthFirstSequenceHasNextPinLaw" = some m.cls) (hnm : meth.name = "law") (hZ : Z.Warmed39 s.vm) (hw : ∀ d ∈ tables_1, d.before a0 Z = true) (e0 : T0.heap = h0) (N0 : Fr n0 locs) (Z0 : n0 ≤ h0.size) (he1 : y1 = x19) (he2 : y2 = x23) :
    OwnG p e below s (fun v h L => v = some (.int (1 : Int32)) ∧ Fr n0 L) room_1.cells room_1.slots (T0.setTop (mkF m 359 #[.val (.int va), .val (.int vb), .val (.int vc), .val (.int vd), .val (.int ve), .val (.int k1), .val (.int k2), .val (.int k3), .val (.int ds), .val (.int te), .val (.int pa), .val (.int pb), .val (.int qa), .val (.int qb), .val (.int qc), .val (.ref lk), .val (.ref sq), .val (.int y1), .val (.int y2), .val (.int x19), .val (.int x20), .val (.int x21), .val (.int qc), .unset] [(.int x23)])) := by
  show OwnG p e below s _ _ _ (T0.setTop (mkF m 359 #[.val (.int va), .val (.int vb), .val (.int vc), .val (.int vd), .val (.int ve), .val (.int k1), .val (.int k2), .val (.int k3), .val (.int ds), .val (.int te), .val (.int pa), .val (.int pb), .val (.int qa), .val (.int qb), .val (.int qc), .val (.ref lk), .val (.ref sq), .val (.int y1), .val (.int y2), .val (.int x19), .val (.int x20), .val (.int x21), .val (.int qc), .unset] [(.int x23)]))
  refine own_by (fun t kk_ => XS.istore X0.here hx rfl (hb hby at_359) rfl (l' := #[.val (.int va), .val (.int vb), .val (.int vc), .val (.int vd), .val (.int ve), .val (.int k1), .val (.int k2), .val (.int k3), .val (.int ds), .val (.int te), .val (.int pa), .val (.int pb), .val (.int qa), .val (.int qb), .val (.int qc), .val (.ref lk), .val (.ref sq), .val (.int y1), .val (.int y2), .val (.int x19), .val (.int x20), .val (.int x21), .val (.int qc), .val (.int x23)]) rfl kk_) ?_
  show OwnG p e below s _ _ _ (T0.setTop (mkF m 361 #[.val (.int va), .val (.int vb), .val (.int vc), .val (.int vd), .val (.int ve), .val (.int k1), .val (.int k2), .val (.int k3), .val (.int ds), .val (.int te), .val (.int pa), .val (.int pb), .val (.int qa), .val (.int qb), .val (.int qc), .val (.ref lk), .val (.ref sq), .val (.int y1), .val (.int y2), .val (.int x19), .val (.int x20), .val (.int x21), .val (.int qc), .val (.int x23)] []))
  refine own_by (fun t kk_ => XS.iload X0.here hx rfl (hb hby at_361) rfl  kk_) ?_
  show OwnG p e below s _ _ _ (T0.setTop (mkF m 363 #[.val (.int va), .val (.int vb), .val (.int vc), .val (.int vd), .val (.int ve), .val (.int k1), .val (.int k2), .val (.int k3), .val (.int ds), .val (.int te), .val (.int pa), .val (.int pb), .val (.int qa), .val (.int qb), .val (.int qc), .val (.ref lk), .val (.ref sq), .val (.int y1), .val (.int y2), .val (.int x19), .val (.int x20), .val (.int x21), .val (.int qc), .val (.int x23)] [(.int y1)]))
  refine own_by (fun t kk_ => XS.iload X0.here hx rfl (hb hby at_363) rfl  kk_) ?_
  show OwnG p e below s _ _ _ (T0.setTop (mkF m 365 #[.val (.int va), .val (.int vb), .val (.int vc), .val (.int vd), .val (.int ve), .val (.int k1), .val (.int k2), .val (.int k3), .val (.int ds), .val (.int te), .val (.int pa), .val (.int pb), .val (.int qa), .val (.int qb), .val (.int qc), .val (.ref lk), .val (.ref sq), .val (.int y1), .val (.int y2), .val (.int x19), .val (.int x20), .val (.int x21), .val (.int qc), .val (.int x23)] [(.int x19), (.int y1)]))
  refine own_by (fun t kk_ => XS.icmpNo X0.here hx rfl (hb hby at_365) rfl (teq he1).2 kk_) ?_
  show OwnG p e below s _ _ _ (T0.setTop (mkF m 368 #[.val (.int va), .val (.int vb), .val (.int vc), .val (.int vd), .val (.int ve), .val (.int k1), .val (.int k2), .val (.int k3), .val (.int ds), .val (.int te), .val (.int pa), .val (.int pb), .val (.int qa), .val (.int qb), .val (.int qc), .val (.ref lk), .val (.ref sq), .val (.int y1), .val (.int y2), .val (.int x19), .val (.int x20), .val (.int x21), .val (.int qc), .val (.int x23)] []))
  refine own_by (fun t kk_ => XS.iload X0.here hx rfl (hb hby at_368) rfl  kk_) ?_
  show OwnG p e below s _ _ _ (T0.setTop (mkF m 370 #[.val (.int va), .val (.int vb), .val (.int vc), .val (.int vd), .val (.int ve), .val (.int k1), .val (.int k2), .val (.int k3), .val (.int ds), .val (.int te), .val (.int pa), .val (.int pb), .val (.int qa), .val (.int qb), .val (.int qc), .val (.ref lk), .val (.ref sq), .val (.int y1), .val (.int y2), .val (.int x19), .val (.int x20), .val (.int x21), .val (.int qc), .val (.int x23)] [(.int y2)]))
  refine own_by (fun t kk_ => XS.iload X0.here hx rfl (hb hby at_370) rfl  kk_) ?_
  show OwnG p e below s _ _ _ (T0.setTop (mkF m 372 #[.val (.int va), .val (.int vb), .val (.int vc), .val (.int vd), .val (.int ve), .val (.int k1), .val (.int k2), .val (.int k3), .val (.int ds), .val (.int te), .val (.int pa), .val (.int pb), .val (.int qa), .val (.int qb), .val (.int qc), .val (.ref lk), .val (.ref sq), .val (.int y1), .val (.int y2), .val (.int x19), .val (.int x20), .val (.int x21), .val (.int qc), .val (.int x23)] [(.int x23), (.int y2)]))
  refine own_by (fun t kk_ => XS.icmpNo X0.here hx rfl (hb hby at_372) rfl (teq he2).2 kk_) ?_
  show OwnG p e below s _ _ _ (T0.setTop (mkF m 375 #[.val (.int va), .val (.int vb), .val (.int vc), .val (.int vd), .val (.int ve), .val (.int k1), .val (.int k2), .val (.int k3), .val (.int ds), .val (.int te), .val (.int pa), .val (.int pb), .val (.int qa), .val (.int qb), .val (.int qc), .val (.ref lk), .val (.ref sq), .val (.int y1), .val (.int y2), .val (.int x19), .val (.int x20), .val (.int x21), .val (.int qc), .val (.int x23)] []))
  refine own_by (fun t kk_ => XS.iconst X0.here hx rfl (hb hby at_375) kk_) ?_
  show OwnG p e below s _ _ _ (T0.setTop (mkF m 376 #[.val (.int va), .val (.int vb), .val (.int vc), .val (.int vd), .val (.int ve), .val (.int k1), .val (.int k2), .val (.int k3), .val (.int ds), .val (.int te), .val (.int pa), .val (.int pb), .val (.int qa), .val (.int qb), .val (.int qc), .val (.ref lk), .val (.ref sq), .val (.int y1), .val (.int y2), .val (.int x19), .val (.int x20), .val (.int x21), .val (.int qc), .val (.int x23)] [(.int (1 : Int32))]))
  refine own_by (fun t kk_ => XS.goto X0.here hx rfl (pc0 := 376) (pc' := 380) rfl (hb hby at_376) (by decide) (by decide) kk_) ?_
  show OwnG p e below s _ _ _ (T0.setTop (mkF m 380 #[.val (.int va), .val (.int vb), .val (.int vc), .val (.int vd), .val (.int ve), .val (.int k1), .val (.int k2), .val (.int k3), .val (.int ds), .val (.int te), .val (.int pa), .val (.int pb), .val (.int qa), .val (.int qb), .val (.int qc), .val (.ref lk), .val (.ref sq), .val (.int y1), .val (.int y2), .val (.int x19), .val (.int x20), .val (.int x21), .val (.int qc), .val (.int x23)] [(.int (1 : Int32))]))
  exact own_outN X0 hx hret (by simp) hlk (hb hby at_380) rfl (⟨rfl, N0⟩) (by decide) (by decide)
set_option maxRecDepth 65536 in
set_option maxHeartbeats 40000000 in
theorem own_t316 {p : Program} {l : Launch} {e : Env} {s : State} {m : MethodId} {args : Array Value} {below : List Frame} {meth : Method} {c : Code} {T0 : State} {locs : List Loc} {Z : State} {a0 : Array Value} {h0 : Heap} {n0 : Nat} (va vb vc vd ve k1 k2 k3 ds te pa pb qa qb qc y1 y2 x19 x20 x21 : Int32) (lk sq : Addr) (X0 : Stand p l e room_1 s m args below meth c T0 locs (0 + 1 + 1 + 3) (0 + 0 + 3 + 5)) (hx : p.tables.exec = Jvm.exec) (hby : c.code = code) (hml : c.maxLocals = 24) (hret : meth.sig.returnType = some .boolean) (hlk : meth.locks = false) (hown : s.vm.findClass "com/example/score_on_crawl/scoreoncrawl/engine/BreadthFirstSequenceHasNextPinLaw" = some m.cls) (hnm : meth.name = "law") (hZ : Z.Warmed39 s.vm) (hw : ∀ d ∈ tables_1, d.before a0 Z = true) (e0 : T0.heap = h0) (N0 : Fr n0 locs) (Z0 : n0 ≤ h0.size) (he1 : y1 = x19) (he2 : y2 = own_e3 k3 x20 x21 qc) :
    OwnG p e below s (fun v h L => v = some (.int (1 : Int32)) ∧ Fr n0 L) room_1.cells room_1.slots (T0.setTop (mkF m 316 #[.val (.int va), .val (.int vb), .val (.int vc), .val (.int vd), .val (.int ve), .val (.int k1), .val (.int k2), .val (.int k3), .val (.int ds), .val (.int te), .val (.int pa), .val (.int pb), .val (.int qa), .val (.int qb), .val (.int qc), .val (.ref lk), .val (.ref sq), .val (.int y1), .val (.int y2), .val (.int x19), .val (.int x20), .unset, .unset, .unset] [(.int x21)])) := by
  show OwnG p e below s _ _ _ (T0.setTop (mkF m 316 #[.val (.int va), .val (.int vb), .val (.int vc), .val (.int vd), .val (.int ve), .val (.int k1), .val (.int k2), .val (.int k3), .val (.int ds), .val (.int te), .val (.int pa), .val (.int pb), .val (.int qa), .val (.int qb), .val (.int qc), .val (.ref lk), .val (.ref sq), .val (.int y1), .val (.int y2), .val (.int x19), .val (.int x20), .unset, .unset, .unset] [(.int x21)]))
  refine own_by (fun t kk_ => XS.istore X0.here hx rfl (hb hby at_316) rfl (l' := #[.val (.int va), .val (.int vb), .val (.int vc), .val (.int vd), .val (.int ve), .val (.int k1), .val (.int k2), .val (.int k3), .val (.int ds), .val (.int te), .val (.int pa), .val (.int pb), .val (.int qa), .val (.int qb), .val (.int qc), .val (.ref lk), .val (.ref sq), .val (.int y1), .val (.int y2), .val (.int x19), .val (.int x20), .val (.int x21), .unset, .unset]) rfl kk_) ?_
  show OwnG p e below s _ _ _ (T0.setTop (mkF m 318 #[.val (.int va), .val (.int vb), .val (.int vc), .val (.int vd), .val (.int ve), .val (.int k1), .val (.int k2), .val (.int k3), .val (.int ds), .val (.int te), .val (.int pa), .val (.int pb), .val (.int qa), .val (.int qb), .val (.int qc), .val (.ref lk), .val (.ref sq), .val (.int y1), .val (.int y2), .val (.int x19), .val (.int x20), .val (.int x21), .unset, .unset] []))
  refine own_by (fun t kk_ => XS.iload X0.here hx rfl (hb hby at_318) rfl  kk_) ?_
  show OwnG p e below s _ _ _ (T0.setTop (mkF m 320 #[.val (.int va), .val (.int vb), .val (.int vc), .val (.int vd), .val (.int ve), .val (.int k1), .val (.int k2), .val (.int k3), .val (.int ds), .val (.int te), .val (.int pa), .val (.int pb), .val (.int qa), .val (.int qb), .val (.int qc), .val (.ref lk), .val (.ref sq), .val (.int y1), .val (.int y2), .val (.int x19), .val (.int x20), .val (.int x21), .unset, .unset] [(.int qc)]))
  refine own_by (fun t kk_ => XS.istore X0.here hx rfl (hb hby at_320) rfl (l' := #[.val (.int va), .val (.int vb), .val (.int vc), .val (.int vd), .val (.int ve), .val (.int k1), .val (.int k2), .val (.int k3), .val (.int ds), .val (.int te), .val (.int pa), .val (.int pb), .val (.int qa), .val (.int qb), .val (.int qc), .val (.ref lk), .val (.ref sq), .val (.int y1), .val (.int y2), .val (.int x19), .val (.int x20), .val (.int x21), .val (.int qc), .unset]) rfl kk_) ?_
  show OwnG p e below s _ _ _ (T0.setTop (mkF m 322 #[.val (.int va), .val (.int vb), .val (.int vc), .val (.int vd), .val (.int ve), .val (.int k1), .val (.int k2), .val (.int k3), .val (.int ds), .val (.int te), .val (.int pa), .val (.int pb), .val (.int qa), .val (.int qb), .val (.int qc), .val (.ref lk), .val (.ref sq), .val (.int y1), .val (.int y2), .val (.int x19), .val (.int x20), .val (.int x21), .val (.int qc), .unset] []))
  refine own_by (fun t kk_ => XS.iload X0.here hx rfl (hb hby at_322) rfl  kk_) ?_
  show OwnG p e below s _ _ _ (T0.setTop (mkF m 324 #[.val (.int va), .val (.int vb), .val (.int vc), .val (.int vd), .val (.int ve), .val (.int k1), .val (.int k2), .val (.int k3), .val (.int ds), .val (.int te), .val (.int pa), .val (.int pb), .val (.int qa), .val (.int qb), .val (.int qc), .val (.ref lk), .val (.ref sq), .val (.int y1), .val (.int y2), .val (.int x19), .val (.int x20), .val (.int x21), .val (.int qc), .unset] [(.int k3)]))
  by_cases hb324_1 : (0 : Int32) < k3
  · refine own_by (fun t kk_ => XS.ifNo X0.here hx rfl (hb hby at_324) rfl ((if0 _ _).trans (tlt hb324_1).2.2.2) kk_) ?_
    show OwnG p e below s _ _ _ (T0.setTop (mkF m 327 #[.val (.int va), .val (.int vb), .val (.int vc), .val (.int vd), .val (.int ve), .val (.int k1), .val (.int k2), .val (.int k3), .val (.int ds), .val (.int te), .val (.int pa), .val (.int pb), .val (.int qa), .val (.int qb), .val (.int qc), .val (.ref lk), .val (.ref sq), .val (.int y1), .val (.int y2), .val (.int x19), .val (.int x20), .val (.int x21), .val (.int qc), .unset] []))
    refine own_by (fun t kk_ => XS.iload X0.here hx rfl (hb hby at_327) rfl  kk_) ?_
    show OwnG p e below s _ _ _ (T0.setTop (mkF m 329 #[.val (.int va), .val (.int vb), .val (.int vc), .val (.int vd), .val (.int ve), .val (.int k1), .val (.int k2), .val (.int k3), .val (.int ds), .val (.int te), .val (.int pa), .val (.int pb), .val (.int qa), .val (.int qb), .val (.int qc), .val (.ref lk), .val (.ref sq), .val (.int y1), .val (.int y2), .val (.int x19), .val (.int x20), .val (.int x21), .val (.int qc), .unset] [(.int x20)]))
    by_cases hb329_2 : x20 = (0 : Int32)
    · refine own_by (fun t kk_ => XS.ifYes X0.here hx rfl (pc0 := 329) (pc' := 354) rfl (hb hby at_329) rfl ((if0 _ _).trans (teq hb329_2).1) (by decide) (by decide) kk_) ?_
      show OwnG p e below s _ _ _ (T0.setTop (mkF m 354 #[.val (.int va), .val (.int vb), .val (.int vc), .val (.int vd), .val (.int ve), .val (.int k1), .val (.int k2), .val (.int k3), .val (.int ds), .val (.int te), .val (.int pa), .val (.int pb), .val (.int qa), .val (.int qb), .val (.int qc), .val (.ref lk), .val (.ref sq), .val (.int y1), .val (.int y2), .val (.int x19), .val (.int x20), .val (.int x21), .val (.int qc), .unset] []))
      refine own_by (fun t kk_ => XS.iconst X0.here hx rfl (hb hby at_354) kk_) ?_
      show OwnG p e below s _ _ _ (T0.setTop (mkF m 355 #[.val (.int va), .val (.int vb), .val (.int vc), .val (.int vd), .val (.int ve), .val (.int k1), .val (.int k2), .val (.int k3), .val (.int ds), .val (.int te), .val (.int pa), .val (.int pb), .val (.int qa), .val (.int qb), .val (.int qc), .val (.ref lk), .val (.ref sq), .val (.int y1), .val (.int y2), .val (.int x19), .val (.int x20), .val (.int x21), .val (.int qc), .unset] [(.int (1 : Int32))]))
      refine own_by (fun t kk_ => XS.goto X0.here hx rfl (pc0 := 355) (pc' := 359) rfl (hb hby at_355) (by decide) (by decide) kk_) ?_
      show OwnG p e below s _ _ _ (T0.setTop (mkF m 359 #[.val (.int va), .val (.int vb), .val (.int vc), .val (.int vd), .val (.int ve), .val (.int k1), .val (.int k2), .val (.int k3), .val (.int ds), .val (.int te), .val (.int pa), .val (.int pb), .val (.int qa), .val (.int qb), .val (.int qc), .val (.ref lk), .val (.ref sq), .val (.int y1), .val (.int y2), .val (.int x19), .val (.int x20), .val (.int x21), .val (.int qc), .unset] [(.int (1 : Int32))]))
      exact own_t359 va vb vc vd ve k1 k2 k3 ds te pa pb qa qb qc y1 y2 x19 x20 x21 (1 : Int32) lk sq X0 hx hby hml hret hlk hown hnm hZ hw e0 N0 Z0 he1 (by rw [he2]; simp [own_e3, hb324_1, hb329_2])
    · refine own_by (fun t kk_ => XS.ifNo X0.here hx rfl (hb hby at_329) rfl ((if0 _ _).trans (feq hb329_2).1) kk_) ?_
      show OwnG p e below s _ _ _ (T0.setTop (mkF m 332 #[.val (.int va), .val (.int vb), .val (.int vc), .val (.int vd), .val (.int ve), .val (.int k1), .val (.int k2), .val (.int k3), .val (.int ds), .val (.int te), .val (.int pa), .val (.int pb), .val (.int qa), .val (.int qb), .val (.int qc), .val (.ref lk), .val (.ref sq), .val (.int y1), .val (.int y2), .val (.int x19), .val (.int x20), .val (.int x21), .val (.int qc), .unset] []))
      refine own_by (fun t kk_ => XS.iload X0.here hx rfl (hb hby at_332) rfl  kk_) ?_
      show OwnG p e below s _ _ _ (T0.setTop (mkF m 334 #[.val (.int va), .val (.int vb), .val (.int vc), .val (.int vd), .val (.int ve), .val (.int k1), .val (.int k2), .val (.int k3), .val (.int ds), .val (.int te), .val (.int pa), .val (.int pb), .val (.int qa), .val (.int qb), .val (.int qc), .val (.ref lk), .val (.ref sq), .val (.int y1), .val (.int y2), .val (.int x19), .val (.int x20), .val (.int x21), .val (.int qc), .unset] [(.int k3)]))
      refine own_by (fun t kk_ => XS.iconst X0.here hx rfl (hb hby at_334) kk_) ?_
      show OwnG p e below s _ _ _ (T0.setTop (mkF m 335 #[.val (.int va), .val (.int vb), .val (.int vc), .val (.int vd), .val (.int ve), .val (.int k1), .val (.int k2), .val (.int k3), .val (.int ds), .val (.int te), .val (.int pa), .val (.int pb), .val (.int qa), .val (.int qb), .val (.int qc), .val (.ref lk), .val (.ref sq), .val (.int y1), .val (.int y2), .val (.int x19), .val (.int x20), .val (.int x21), .val (.int qc), .unset] [(.int (1 : Int32)), (.int k3)]))
      by_cases hb335_3 : (1 : Int32) < k3
      · refine own_by (fun t kk_ => XS.icmpNo X0.here hx rfl (hb hby at_335) rfl (tlt hb335_3).2.2.2 kk_) ?_
        show OwnG p e below s _ _ _ (T0.setTop (mkF m 338 #[.val (.int va), .val (.int vb), .val (.int vc), .val (.int vd), .val (.int ve), .val (.int k1), .val (.int k2), .val (.int k3), .val (.int ds), .val (.int te), .val (.int pa), .val (.int pb), .val (.int qa), .val (.int qb), .val (.int qc), .val (.ref lk), .val (.ref sq), .val (.int y1), .val (.int y2), .val (.int x19), .val (.int x20), .val (.int x21), .val (.int qc), .unset] []))
        refine own_by (fun t kk_ => XS.iload X0.here hx rfl (hb hby at_338) rfl  kk_) ?_
        show OwnG p e below s _ _ _ (T0.setTop (mkF m 340 #[.val (.int va), .val (.int vb), .val (.int vc), .val (.int vd), .val (.int ve), .val (.int k1), .val (.int k2), .val (.int k3), .val (.int ds), .val (.int te), .val (.int pa), .val (.int pb), .val (.int qa), .val (.int qb), .val (.int qc), .val (.ref lk), .val (.ref sq), .val (.int y1), .val (.int y2), .val (.int x19), .val (.int x20), .val (.int x21), .val (.int qc), .unset] [(.int x21)]))
        by_cases hb340_4 : x21 = (0 : Int32)
        · refine own_by (fun t kk_ => XS.ifYes X0.here hx rfl (pc0 := 340) (pc' := 354) rfl (hb hby at_340) rfl ((if0 _ _).trans (teq hb340_4).1) (by decide) (by decide) kk_) ?_
          show OwnG p e below s _ _ _ (T0.setTop (mkF m 354 #[.val (.int va), .val (.int vb), .val (.int vc), .val (.int vd), .val (.int ve), .val (.int k1), .val (.int k2), .val (.int k3), .val (.int ds), .val (.int te), .val (.int pa), .val (.int pb), .val (.int qa), .val (.int qb), .val (.int qc), .val (.ref lk), .val (.ref sq), .val (.int y1), .val (.int y2), .val (.int x19), .val (.int x20), .val (.int x21), .val (.int qc), .unset] []))
          refine own_by (fun t kk_ => XS.iconst X0.here hx rfl (hb hby at_354) kk_) ?_
          show OwnG p e below s _ _ _ (T0.setTop (mkF m 355 #[.val (.int va), .val (.int vb), .val (.int vc), .val (.int vd), .val (.int ve), .val (.int k1), .val (.int k2), .val (.int k3), .val (.int ds), .val (.int te), .val (.int pa), .val (.int pb), .val (.int qa), .val (.int qb), .val (.int qc), .val (.ref lk), .val (.ref sq), .val (.int y1), .val (.int y2), .val (.int x19), .val (.int x20), .val (.int x21), .val (.int qc), .unset] [(.int (1 : Int32))]))
          refine own_by (fun t kk_ => XS.goto X0.here hx rfl (pc0 := 355) (pc' := 359) rfl (hb hby at_355) (by decide) (by decide) kk_) ?_
          show OwnG p e below s _ _ _ (T0.setTop (mkF m 359 #[.val (.int va), .val (.int vb), .val (.int vc), .val (.int vd), .val (.int ve), .val (.int k1), .val (.int k2), .val (.int k3), .val (.int ds), .val (.int te), .val (.int pa), .val (.int pb), .val (.int qa), .val (.int qb), .val (.int qc), .val (.ref lk), .val (.ref sq), .val (.int y1), .val (.int y2), .val (.int x19), .val (.int x20), .val (.int x21), .val (.int qc), .unset] [(.int (1 : Int32))]))
          exact own_t359 va vb vc vd ve k1 k2 k3 ds te pa pb qa qb qc y1 y2 x19 x20 x21 (1 : Int32) lk sq X0 hx hby hml hret hlk hown hnm hZ hw e0 N0 Z0 he1 (by rw [he2]; simp [own_e3, hb324_1, hb329_2, hb335_3, hb340_4])
        · refine own_by (fun t kk_ => XS.ifNo X0.here hx rfl (hb hby at_340) rfl ((if0 _ _).trans (feq hb340_4).1) kk_) ?_
          show OwnG p e below s _ _ _ (T0.setTop (mkF m 343 #[.val (.int va), .val (.int vb), .val (.int vc), .val (.int vd), .val (.int ve), .val (.int k1), .val (.int k2), .val (.int k3), .val (.int ds), .val (.int te), .val (.int pa), .val (.int pb), .val (.int qa), .val (.int qb), .val (.int qc), .val (.ref lk), .val (.ref sq), .val (.int y1), .val (.int y2), .val (.int x19), .val (.int x20), .val (.int x21), .val (.int qc), .unset] []))
          refine own_by (fun t kk_ => XS.iload X0.here hx rfl (hb hby at_343) rfl  kk_) ?_
          show OwnG p e below s _ _ _ (T0.setTop (mkF m 345 #[.val (.int va), .val (.int vb), .val (.int vc), .val (.int vd), .val (.int ve), .val (.int k1), .val (.int k2), .val (.int k3), .val (.int ds), .val (.int te), .val (.int pa), .val (.int pb), .val (.int qa), .val (.int qb), .val (.int qc), .val (.ref lk), .val (.ref sq), .val (.int y1), .val (.int y2), .val (.int x19), .val (.int x20), .val (.int x21), .val (.int qc), .unset] [(.int k3)]))
          refine own_by (fun t kk_ => XS.iconst X0.here hx rfl (hb hby at_345) kk_) ?_
          show OwnG p e below s _ _ _ (T0.setTop (mkF m 346 #[.val (.int va), .val (.int vb), .val (.int vc), .val (.int vd), .val (.int ve), .val (.int k1), .val (.int k2), .val (.int k3), .val (.int ds), .val (.int te), .val (.int pa), .val (.int pb), .val (.int qa), .val (.int qb), .val (.int qc), .val (.ref lk), .val (.ref sq), .val (.int y1), .val (.int y2), .val (.int x19), .val (.int x20), .val (.int x21), .val (.int qc), .unset] [(.int (2 : Int32)), (.int k3)]))
          by_cases hb346_5 : (2 : Int32) < k3
          · refine own_by (fun t kk_ => XS.icmpNo X0.here hx rfl (hb hby at_346) rfl (tlt hb346_5).2.2.2 kk_) ?_
            show OwnG p e below s _ _ _ (T0.setTop (mkF m 349 #[.val (.int va), .val (.int vb), .val (.int vc), .val (.int vd), .val (.int ve), .val (.int k1), .val (.int k2), .val (.int k3), .val (.int ds), .val (.int te), .val (.int pa), .val (.int pb), .val (.int qa), .val (.int qb), .val (.int qc), .val (.ref lk), .val (.ref sq), .val (.int y1), .val (.int y2), .val (.int x19), .val (.int x20), .val (.int x21), .val (.int qc), .unset] []))
            refine own_by (fun t kk_ => XS.iload X0.here hx rfl (hb hby at_349) rfl  kk_) ?_
            show OwnG p e below s _ _ _ (T0.setTop (mkF m 351 #[.val (.int va), .val (.int vb), .val (.int vc), .val (.int vd), .val (.int ve), .val (.int k1), .val (.int k2), .val (.int k3), .val (.int ds), .val (.int te), .val (.int pa), .val (.int pb), .val (.int qa), .val (.int qb), .val (.int qc), .val (.ref lk), .val (.ref sq), .val (.int y1), .val (.int y2), .val (.int x19), .val (.int x20), .val (.int x21), .val (.int qc), .unset] [(.int qc)]))
            by_cases hb351_6 : qc = (0 : Int32)
            · refine own_by (fun t kk_ => XS.ifNo X0.here hx rfl (hb hby at_351) rfl ((if0 _ _).trans (teq hb351_6).2) kk_) ?_
              show OwnG p e below s _ _ _ (T0.setTop (mkF m 354 #[.val (.int va), .val (.int vb), .val (.int vc), .val (.int vd), .val (.int ve), .val (.int k1), .val (.int k2), .val (.int k3), .val (.int ds), .val (.int te), .val (.int pa), .val (.int pb), .val (.int qa), .val (.int qb), .val (.int qc), .val (.ref lk), .val (.ref sq), .val (.int y1), .val (.int y2), .val (.int x19), .val (.int x20), .val (.int x21), .val (.int qc), .unset] []))
              refine own_by (fun t kk_ => XS.iconst X0.here hx rfl (hb hby at_354) kk_) ?_
              show OwnG p e below s _ _ _ (T0.setTop (mkF m 355 #[.val (.int va), .val (.int vb), .val (.int vc), .val (.int vd), .val (.int ve), .val (.int k1), .val (.int k2), .val (.int k3), .val (.int ds), .val (.int te), .val (.int pa), .val (.int pb), .val (.int qa), .val (.int qb), .val (.int qc), .val (.ref lk), .val (.ref sq), .val (.int y1), .val (.int y2), .val (.int x19), .val (.int x20), .val (.int x21), .val (.int qc), .unset] [(.int (1 : Int32))]))
              refine own_by (fun t kk_ => XS.goto X0.here hx rfl (pc0 := 355) (pc' := 359) rfl (hb hby at_355) (by decide) (by decide) kk_) ?_
              show OwnG p e below s _ _ _ (T0.setTop (mkF m 359 #[.val (.int va), .val (.int vb), .val (.int vc), .val (.int vd), .val (.int ve), .val (.int k1), .val (.int k2), .val (.int k3), .val (.int ds), .val (.int te), .val (.int pa), .val (.int pb), .val (.int qa), .val (.int qb), .val (.int qc), .val (.ref lk), .val (.ref sq), .val (.int y1), .val (.int y2), .val (.int x19), .val (.int x20), .val (.int x21), .val (.int qc), .unset] [(.int (1 : Int32))]))
              exact own_t359 va vb vc vd ve k1 k2 k3 ds te pa pb qa qb qc y1 y2 x19 x20 x21 (1 : Int32) lk sq X0 hx hby hml hret hlk hown hnm hZ hw e0 N0 Z0 he1 (by rw [he2]; simp [own_e3, hb324_1, hb329_2, hb335_3, hb340_4, hb346_5, hb351_6])
            · refine own_by (fun t kk_ => XS.ifYes X0.here hx rfl (pc0 := 351) (pc' := 358) rfl (hb hby at_351) rfl ((if0 _ _).trans (feq hb351_6).2) (by decide) (by decide) kk_) ?_
              show OwnG p e below s _ _ _ (T0.setTop (mkF m 358 #[.val (.int va), .val (.int vb), .val (.int vc), .val (.int vd), .val (.int ve), .val (.int k1), .val (.int k2), .val (.int k3), .val (.int ds), .val (.int te), .val (.int pa), .val (.int pb), .val (.int qa), .val (.int qb), .val (.int qc), .val (.ref lk), .val (.ref sq), .val (.int y1), .val (.int y2), .val (.int x19), .val (.int x20), .val (.int x21), .val (.int qc), .unset] []))
              refine own_by (fun t kk_ => XS.iconst X0.here hx rfl (hb hby at_358) kk_) ?_
              show OwnG p e below s _ _ _ (T0.setTop (mkF m 359 #[.val (.int va), .val (.int vb), .val (.int vc), .val (.int vd), .val (.int ve), .val (.int k1), .val (.int k2), .val (.int k3), .val (.int ds), .val (.int te), .val (.int pa), .val (.int pb), .val (.int qa), .val (.int qb), .val (.int qc), .val (.ref lk), .val (.ref sq), .val (.int y1), .val (.int y2), .val (.int x19), .val (.int x20), .val (.int x21), .val (.int qc), .unset] [(.int (0 : Int32))]))
              exact own_t359 va vb vc vd ve k1 k2 k3 ds te pa pb qa qb qc y1 y2 x19 x20 x21 (0 : Int32) lk sq X0 hx hby hml hret hlk hown hnm hZ hw e0 N0 Z0 he1 (by rw [he2]; simp [own_e3, hb324_1, hb329_2, hb335_3, hb340_4, hb346_5, hb351_6])
          · refine own_by (fun t kk_ => XS.icmpYes X0.here hx rfl (pc0 := 346) (pc' := 358) rfl (hb hby at_346) rfl (flt hb346_5).2.2.2 (by decide) (by decide) kk_) ?_
            show OwnG p e below s _ _ _ (T0.setTop (mkF m 358 #[.val (.int va), .val (.int vb), .val (.int vc), .val (.int vd), .val (.int ve), .val (.int k1), .val (.int k2), .val (.int k3), .val (.int ds), .val (.int te), .val (.int pa), .val (.int pb), .val (.int qa), .val (.int qb), .val (.int qc), .val (.ref lk), .val (.ref sq), .val (.int y1), .val (.int y2), .val (.int x19), .val (.int x20), .val (.int x21), .val (.int qc), .unset] []))
            refine own_by (fun t kk_ => XS.iconst X0.here hx rfl (hb hby at_358) kk_) ?_
            show OwnG p e below s _ _ _ (T0.setTop (mkF m 359 #[.val (.int va), .val (.int vb), .val (.int vc), .val (.int vd), .val (.int ve), .val (.int k1), .val (.int k2), .val (.int k3), .val (.int ds), .val (.int te), .val (.int pa), .val (.int pb), .val (.int qa), .val (.int qb), .val (.int qc), .val (.ref lk), .val (.ref sq), .val (.int y1), .val (.int y2), .val (.int x19), .val (.int x20), .val (.int x21), .val (.int qc), .unset] [(.int (0 : Int32))]))
            exact own_t359 va vb vc vd ve k1 k2 k3 ds te pa pb qa qb qc y1 y2 x19 x20 x21 (0 : Int32) lk sq X0 hx hby hml hret hlk hown hnm hZ hw e0 N0 Z0 he1 (by rw [he2]; simp [own_e3, hb324_1, hb329_2, hb335_3, hb340_4, hb346_5])
      · refine own_by (fun t kk_ => XS.icmpYes X0.here hx rfl (pc0 := 335) (pc' := 343) rfl (hb hby at_335) rfl (flt hb335_3).2.2.2 (by decide) (by decide) kk_) ?_
        show OwnG p e below s _ _ _ (T0.setTop (mkF m 343 #[.val (.int va), .val (.int vb), .val (.int vc), .val (.int vd), .val (.int ve), .val (.int k1), .val (.int k2), .val (.int k3), .val (.int ds), .val (.int te), .val (.int pa), .val (.int pb), .val (.int qa), .val (.int qb), .val (.int qc), .val (.ref lk), .val (.ref sq), .val (.int y1), .val (.int y2), .val (.int x19), .val (.int x20), .val (.int x21), .val (.int qc), .unset] []))
        refine own_by (fun t kk_ => XS.iload X0.here hx rfl (hb hby at_343) rfl  kk_) ?_
        show OwnG p e below s _ _ _ (T0.setTop (mkF m 345 #[.val (.int va), .val (.int vb), .val (.int vc), .val (.int vd), .val (.int ve), .val (.int k1), .val (.int k2), .val (.int k3), .val (.int ds), .val (.int te), .val (.int pa), .val (.int pb), .val (.int qa), .val (.int qb), .val (.int qc), .val (.ref lk), .val (.ref sq), .val (.int y1), .val (.int y2), .val (.int x19), .val (.int x20), .val (.int x21), .val (.int qc), .unset] [(.int k3)]))
        refine own_by (fun t kk_ => XS.iconst X0.here hx rfl (hb hby at_345) kk_) ?_
        show OwnG p e below s _ _ _ (T0.setTop (mkF m 346 #[.val (.int va), .val (.int vb), .val (.int vc), .val (.int vd), .val (.int ve), .val (.int k1), .val (.int k2), .val (.int k3), .val (.int ds), .val (.int te), .val (.int pa), .val (.int pb), .val (.int qa), .val (.int qb), .val (.int qc), .val (.ref lk), .val (.ref sq), .val (.int y1), .val (.int y2), .val (.int x19), .val (.int x20), .val (.int x21), .val (.int qc), .unset] [(.int (2 : Int32)), (.int k3)]))
        by_cases hb346_7 : (2 : Int32) < k3
        · refine own_by (fun t kk_ => XS.icmpNo X0.here hx rfl (hb hby at_346) rfl (tlt hb346_7).2.2.2 kk_) ?_
          show OwnG p e below s _ _ _ (T0.setTop (mkF m 349 #[.val (.int va), .val (.int vb), .val (.int vc), .val (.int vd), .val (.int ve), .val (.int k1), .val (.int k2), .val (.int k3), .val (.int ds), .val (.int te), .val (.int pa), .val (.int pb), .val (.int qa), .val (.int qb), .val (.int qc), .val (.ref lk), .val (.ref sq), .val (.int y1), .val (.int y2), .val (.int x19), .val (.int x20), .val (.int x21), .val (.int qc), .unset] []))
          refine own_by (fun t kk_ => XS.iload X0.here hx rfl (hb hby at_349) rfl  kk_) ?_
          show OwnG p e below s _ _ _ (T0.setTop (mkF m 351 #[.val (.int va), .val (.int vb), .val (.int vc), .val (.int vd), .val (.int ve), .val (.int k1), .val (.int k2), .val (.int k3), .val (.int ds), .val (.int te), .val (.int pa), .val (.int pb), .val (.int qa), .val (.int qb), .val (.int qc), .val (.ref lk), .val (.ref sq), .val (.int y1), .val (.int y2), .val (.int x19), .val (.int x20), .val (.int x21), .val (.int qc), .unset] [(.int qc)]))
          by_cases hb351_8 : qc = (0 : Int32)
          · refine own_by (fun t kk_ => XS.ifNo X0.here hx rfl (hb hby at_351) rfl ((if0 _ _).trans (teq hb351_8).2) kk_) ?_
            show OwnG p e below s _ _ _ (T0.setTop (mkF m 354 #[.val (.int va), .val (.int vb), .val (.int vc), .val (.int vd), .val (.int ve), .val (.int k1), .val (.int k2), .val (.int k3), .val (.int ds), .val (.int te), .val (.int pa), .val (.int pb), .val (.int qa), .val (.int qb), .val (.int qc), .val (.ref lk), .val (.ref sq), .val (.int y1), .val (.int y2), .val (.int x19), .val (.int x20), .val (.int x21), .val (.int qc), .unset] []))
            refine own_by (fun t kk_ => XS.iconst X0.here hx rfl (hb hby at_354) kk_) ?_
            show OwnG p e below s _ _ _ (T0.setTop (mkF m 355 #[.val (.int va), .val (.int vb), .val (.int vc), .val (.int vd), .val (.int ve), .val (.int k1), .val (.int k2), .val (.int k3), .val (.int ds), .val (.int te), .val (.int pa), .val (.int pb), .val (.int qa), .val (.int qb), .val (.int qc), .val (.ref lk), .val (.ref sq), .val (.int y1), .val (.int y2), .val (.int x19), .val (.int x20), .val (.int x21), .val (.int qc), .unset] [(.int (1 : Int32))]))
            refine own_by (fun t kk_ => XS.goto X0.here hx rfl (pc0 := 355) (pc' := 359) rfl (hb hby at_355) (by decide) (by decide) kk_) ?_
            show OwnG p e below s _ _ _ (T0.setTop (mkF m 359 #[.val (.int va), .val (.int vb), .val (.int vc), .val (.int vd), .val (.int ve), .val (.int k1), .val (.int k2), .val (.int k3), .val (.int ds), .val (.int te), .val (.int pa), .val (.int pb), .val (.int qa), .val (.int qb), .val (.int qc), .val (.ref lk), .val (.ref sq), .val (.int y1), .val (.int y2), .val (.int x19), .val (.int x20), .val (.int x21), .val (.int qc), .unset] [(.int (1 : Int32))]))
            exact own_t359 va vb vc vd ve k1 k2 k3 ds te pa pb qa qb qc y1 y2 x19 x20 x21 (1 : Int32) lk sq X0 hx hby hml hret hlk hown hnm hZ hw e0 N0 Z0 he1 (by rw [he2]; simp [own_e3, hb324_1, hb329_2, hb335_3, hb346_7, hb351_8])
          · refine own_by (fun t kk_ => XS.ifYes X0.here hx rfl (pc0 := 351) (pc' := 358) rfl (hb hby at_351) rfl ((if0 _ _).trans (feq hb351_8).2) (by decide) (by decide) kk_) ?_
            show OwnG p e below s _ _ _ (T0.setTop (mkF m 358 #[.val (.int va), .val (.int vb), .val (.int vc), .val (.int vd), .val (.int ve), .val (.int k1), .val (.int k2), .val (.int k3), .val (.int ds), .val (.int te), .val (.int pa), .val (.int pb), .val (.int qa), .val (.int qb), .val (.int qc), .val (.ref lk), .val (.ref sq), .val (.int y1), .val (.int y2), .val (.int x19), .val (.int x20), .val (.int x21), .val (.int qc), .unset] []))
            refine own_by (fun t kk_ => XS.iconst X0.here hx rfl (hb hby at_358) kk_) ?_
            show OwnG p e below s _ _ _ (T0.setTop (mkF m 359 #[.val (.int va), .val (.int vb), .val (.int vc), .val (.int vd), .val (.int ve), .val (.int k1), .val (.int k2), .val (.int k3), .val (.int ds), .val (.int te), .val (.int pa), .val (.int pb), .val (.int qa), .val (.int qb), .val (.int qc), .val (.ref lk), .val (.ref sq), .val (.int y1), .val (.int y2), .val (.int x19), .val (.int x20), .val (.int x21), .val (.int qc), .unset] [(.int (0 : Int32))]))
            exact own_t359 va vb vc vd ve k1 k2 k3 ds te pa pb qa qb qc y1 y2 x19 x20 x21 (0 : Int32) lk sq X0 hx hby hml hret hlk hown hnm hZ hw e0 N0 Z0 he1 (by rw [he2]; simp [own_e3, hb324_1, hb329_2, hb335_3, hb346_7, hb351_8])
        · refine own_by (fun t kk_ => XS.icmpYes X0.here hx rfl (pc0 := 346) (pc' := 358) rfl (hb hby at_346) rfl (flt hb346_7).2.2.2 (by decide) (by decide) kk_) ?_
          show OwnG p e below s _ _ _ (T0.setTop (mkF m 358 #[.val (.int va), .val (.int vb), .val (.int vc), .val (.int vd), .val (.int ve), .val (.int k1), .val (.int k2), .val (.int k3), .val (.int ds), .val (.int te), .val (.int pa), .val (.int pb), .val (.int qa), .val (.int qb), .val (.int qc), .val (.ref lk), .val (.ref sq), .val (.int y1), .val (.int y2), .val (.int x19), .val (.int x20), .val (.int x21), .val (.int qc), .unset] []))
          refine own_by (fun t kk_ => XS.iconst X0.here hx rfl (hb hby at_358) kk_) ?_
          show OwnG p e below s _ _ _ (T0.setTop (mkF m 359 #[.val (.int va), .val (.int vb), .val (.int vc), .val (.int vd), .val (.int ve), .val (.int k1), .val (.int k2), .val (.int k3), .val (.int ds), .val (.int te), .val (.int pa), .val (.int pb), .val (.int qa), .val (.int qb), .val (.int qc), .val (.ref lk), .val (.ref sq), .val (.int y1), .val (.int y2), .val (.int x19), .val (.int x20), .val (.int x21), .val (.int qc), .unset] [(.int (0 : Int32))]))
          exact own_t359 va vb vc vd ve k1 k2 k3 ds te pa pb qa qb qc y1 y2 x19 x20 x21 (0 : Int32) lk sq X0 hx hby hml hret hlk hown hnm hZ hw e0 N0 Z0 he1 (by rw [he2]; simp [own_e3, hb324_1, hb329_2, hb335_3, hb346_7])
  · refine own_by (fun t kk_ => XS.ifYes X0.here hx rfl (pc0 := 324) (pc' := 332) rfl (hb hby at_324) rfl ((if0 _ _).trans (flt hb324_1).2.2.2) (by decide) (by decide) kk_) ?_
    show OwnG p e below s _ _ _ (T0.setTop (mkF m 332 #[.val (.int va), .val (.int vb), .val (.int vc), .val (.int vd), .val (.int ve), .val (.int k1), .val (.int k2), .val (.int k3), .val (.int ds), .val (.int te), .val (.int pa), .val (.int pb), .val (.int qa), .val (.int qb), .val (.int qc), .val (.ref lk), .val (.ref sq), .val (.int y1), .val (.int y2), .val (.int x19), .val (.int x20), .val (.int x21), .val (.int qc), .unset] []))
    refine own_by (fun t kk_ => XS.iload X0.here hx rfl (hb hby at_332) rfl  kk_) ?_
    show OwnG p e below s _ _ _ (T0.setTop (mkF m 334 #[.val (.int va), .val (.int vb), .val (.int vc), .val (.int vd), .val (.int ve), .val (.int k1), .val (.int k2), .val (.int k3), .val (.int ds), .val (.int te), .val (.int pa), .val (.int pb), .val (.int qa), .val (.int qb), .val (.int qc), .val (.ref lk), .val (.ref sq), .val (.int y1), .val (.int y2), .val (.int x19), .val (.int x20), .val (.int x21), .val (.int qc), .unset] [(.int k3)]))
    refine own_by (fun t kk_ => XS.iconst X0.here hx rfl (hb hby at_334) kk_) ?_
    show OwnG p e below s _ _ _ (T0.setTop (mkF m 335 #[.val (.int va), .val (.int vb), .val (.int vc), .val (.int vd), .val (.int ve), .val (.int k1), .val (.int k2), .val (.int k3), .val (.int ds), .val (.int te), .val (.int pa), .val (.int pb), .val (.int qa), .val (.int qb), .val (.int qc), .val (.ref lk), .val (.ref sq), .val (.int y1), .val (.int y2), .val (.int x19), .val (.int x20), .val (.int x21), .val (.int qc), .unset] [(.int (1 : Int32)), (.int k3)]))
    by_cases hb335_9 : (1 : Int32) < k3
    · refine own_by (fun t kk_ => XS.icmpNo X0.here hx rfl (hb hby at_335) rfl (tlt hb335_9).2.2.2 kk_) ?_
      show OwnG p e below s _ _ _ (T0.setTop (mkF m 338 #[.val (.int va), .val (.int vb), .val (.int vc), .val (.int vd), .val (.int ve), .val (.int k1), .val (.int k2), .val (.int k3), .val (.int ds), .val (.int te), .val (.int pa), .val (.int pb), .val (.int qa), .val (.int qb), .val (.int qc), .val (.ref lk), .val (.ref sq), .val (.int y1), .val (.int y2), .val (.int x19), .val (.int x20), .val (.int x21), .val (.int qc), .unset] []))
      refine own_by (fun t kk_ => XS.iload X0.here hx rfl (hb hby at_338) rfl  kk_) ?_
      show OwnG p e below s _ _ _ (T0.setTop (mkF m 340 #[.val (.int va), .val (.int vb), .val (.int vc), .val (.int vd), .val (.int ve), .val (.int k1), .val (.int k2), .val (.int k3), .val (.int ds), .val (.int te), .val (.int pa), .val (.int pb), .val (.int qa), .val (.int qb), .val (.int qc), .val (.ref lk), .val (.ref sq), .val (.int y1), .val (.int y2), .val (.int x19), .val (.int x20), .val (.int x21), .val (.int qc), .unset] [(.int x21)]))
      by_cases hb340_10 : x21 = (0 : Int32)
      · refine own_by (fun t kk_ => XS.ifYes X0.here hx rfl (pc0 := 340) (pc' := 354) rfl (hb hby at_340) rfl ((if0 _ _).trans (teq hb340_10).1) (by decide) (by decide) kk_) ?_
        show OwnG p e below s _ _ _ (T0.setTop (mkF m 354 #[.val (.int va), .val (.int vb), .val (.int vc), .val (.int vd), .val (.int ve), .val (.int k1), .val (.int k2), .val (.int k3), .val (.int ds), .val (.int te), .val (.int pa), .val (.int pb), .val (.int qa), .val (.int qb), .val (.int qc), .val (.ref lk), .val (.ref sq), .val (.int y1), .val (.int y2), .val (.int x19), .val (.int x20), .val (.int x21), .val (.int qc), .unset] []))
        refine own_by (fun t kk_ => XS.iconst X0.here hx rfl (hb hby at_354) kk_) ?_
        show OwnG p e below s _ _ _ (T0.setTop (mkF m 355 #[.val (.int va), .val (.int vb), .val (.int vc), .val (.int vd), .val (.int ve), .val (.int k1), .val (.int k2), .val (.int k3), .val (.int ds), .val (.int te), .val (.int pa), .val (.int pb), .val (.int qa), .val (.int qb), .val (.int qc), .val (.ref lk), .val (.ref sq), .val (.int y1), .val (.int y2), .val (.int x19), .val (.int x20), .val (.int x21), .val (.int qc), .unset] [(.int (1 : Int32))]))
        refine own_by (fun t kk_ => XS.goto X0.here hx rfl (pc0 := 355) (pc' := 359) rfl (hb hby at_355) (by decide) (by decide) kk_) ?_
        show OwnG p e below s _ _ _ (T0.setTop (mkF m 359 #[.val (.int va), .val (.int vb), .val (.int vc), .val (.int vd), .val (.int ve), .val (.int k1), .val (.int k2), .val (.int k3), .val (.int ds), .val (.int te), .val (.int pa), .val (.int pb), .val (.int qa), .val (.int qb), .val (.int qc), .val (.ref lk), .val (.ref sq), .val (.int y1), .val (.int y2), .val (.int x19), .val (.int x20), .val (.int x21), .val (.int qc), .unset] [(.int (1 : Int32))]))
        exact own_t359 va vb vc vd ve k1 k2 k3 ds te pa pb qa qb qc y1 y2 x19 x20 x21 (1 : Int32) lk sq X0 hx hby hml hret hlk hown hnm hZ hw e0 N0 Z0 he1 (by rw [he2]; simp [own_e3, hb324_1, hb335_9, hb340_10])
      · refine own_by (fun t kk_ => XS.ifNo X0.here hx rfl (hb hby at_340) rfl ((if0 _ _).trans (feq hb340_10).1) kk_) ?_
        show OwnG p e below s _ _ _ (T0.setTop (mkF m 343 #[.val (.int va), .val (.int vb), .val (.int vc), .val (.int vd), .val (.int ve), .val (.int k1), .val (.int k2), .val (.int k3), .val (.int ds), .val (.int te), .val (.int pa), .val (.int pb), .val (.int qa), .val (.int qb), .val (.int qc), .val (.ref lk), .val (.ref sq), .val (.int y1), .val (.int y2), .val (.int x19), .val (.int x20), .val (.int x21), .val (.int qc), .unset] []))
        refine own_by (fun t kk_ => XS.iload X0.here hx rfl (hb hby at_343) rfl  kk_) ?_
        show OwnG p e below s _ _ _ (T0.setTop (mkF m 345 #[.val (.int va), .val (.int vb), .val (.int vc), .val (.int vd), .val (.int ve), .val (.int k1), .val (.int k2), .val (.int k3), .val (.int ds), .val (.int te), .val (.int pa), .val (.int pb), .val (.int qa), .val (.int qb), .val (.int qc), .val (.ref lk), .val (.ref sq), .val (.int y1), .val (.int y2), .val (.int x19), .val (.int x20), .val (.int x21), .val (.int qc), .unset] [(.int k3)]))
        refine own_by (fun t kk_ => XS.iconst X0.here hx rfl (hb hby at_345) kk_) ?_
        show OwnG p e below s _ _ _ (T0.setTop (mkF m 346 #[.val (.int va), .val (.int vb), .val (.int vc), .val (.int vd), .val (.int ve), .val (.int k1), .val (.int k2), .val (.int k3), .val (.int ds), .val (.int te), .val (.int pa), .val (.int pb), .val (.int qa), .val (.int qb), .val (.int qc), .val (.ref lk), .val (.ref sq), .val (.int y1), .val (.int y2), .val (.int x19), .val (.int x20), .val (.int x21), .val (.int qc), .unset] [(.int (2 : Int32)), (.int k3)]))
        by_cases hb346_11 : (2 : Int32) < k3
        · refine own_by (fun t kk_ => XS.icmpNo X0.here hx rfl (hb hby at_346) rfl (tlt hb346_11).2.2.2 kk_) ?_
          show OwnG p e below s _ _ _ (T0.setTop (mkF m 349 #[.val (.int va), .val (.int vb), .val (.int vc), .val (.int vd), .val (.int ve), .val (.int k1), .val (.int k2), .val (.int k3), .val (.int ds), .val (.int te), .val (.int pa), .val (.int pb), .val (.int qa), .val (.int qb), .val (.int qc), .val (.ref lk), .val (.ref sq), .val (.int y1), .val (.int y2), .val (.int x19), .val (.int x20), .val (.int x21), .val (.int qc), .unset] []))
          refine own_by (fun t kk_ => XS.iload X0.here hx rfl (hb hby at_349) rfl  kk_) ?_
          show OwnG p e below s _ _ _ (T0.setTop (mkF m 351 #[.val (.int va), .val (.int vb), .val (.int vc), .val (.int vd), .val (.int ve), .val (.int k1), .val (.int k2), .val (.int k3), .val (.int ds), .val (.int te), .val (.int pa), .val (.int pb), .val (.int qa), .val (.int qb), .val (.int qc), .val (.ref lk), .val (.ref sq), .val (.int y1), .val (.int y2), .val (.int x19), .val (.int x20), .val (.int x21), .val (.int qc), .unset] [(.int qc)]))
          by_cases hb351_12 : qc = (0 : Int32)
          · refine own_by (fun t kk_ => XS.ifNo X0.here hx rfl (hb hby at_351) rfl ((if0 _ _).trans (teq hb351_12).2) kk_) ?_
            show OwnG p e below s _ _ _ (T0.setTop (mkF m 354 #[.val (.int va), .val (.int vb), .val (.int vc), .val (.int vd), .val (.int ve), .val (.int k1), .val (.int k2), .val (.int k3), .val (.int ds), .val (.int te), .val (.int pa), .val (.int pb), .val (.int qa), .val (.int qb), .val (.int qc), .val (.ref lk), .val (.ref sq), .val (.int y1), .val (.int y2), .val (.int x19), .val (.int x20), .val (.int x21), .val (.int qc), .unset] []))
            refine own_by (fun t kk_ => XS.iconst X0.here hx rfl (hb hby at_354) kk_) ?_
            show OwnG p e below s _ _ _ (T0.setTop (mkF m 355 #[.val (.int va), .val (.int vb), .val (.int vc), .val (.int vd), .val (.int ve), .val (.int k1), .val (.int k2), .val (.int k3), .val (.int ds), .val (.int te), .val (.int pa), .val (.int pb), .val (.int qa), .val (.int qb), .val (.int qc), .val (.ref lk), .val (.ref sq), .val (.int y1), .val (.int y2), .val (.int x19), .val (.int x20), .val (.int x21), .val (.int qc), .unset] [(.int (1 : Int32))]))
            refine own_by (fun t kk_ => XS.goto X0.here hx rfl (pc0 := 355) (pc' := 359) rfl (hb hby at_355) (by decide) (by decide) kk_) ?_
            show OwnG p e below s _ _ _ (T0.setTop (mkF m 359 #[.val (.int va), .val (.int vb), .val (.int vc), .val (.int vd), .val (.int ve), .val (.int k1), .val (.int k2), .val (.int k3), .val (.int ds), .val (.int te), .val (.int pa), .val (.int pb), .val (.int qa), .val (.int qb), .val (.int qc), .val (.ref lk), .val (.ref sq), .val (.int y1), .val (.int y2), .val (.int x19), .val (.int x20), .val (.int x21), .val (.int qc), .unset] [(.int (1 : Int32))]))
            exact own_t359 va vb vc vd ve k1 k2 k3 ds te pa pb qa qb qc y1 y2 x19 x20 x21 (1 : Int32) lk sq X0 hx hby hml hret hlk hown hnm hZ hw e0 N0 Z0 he1 (by rw [he2]; simp [own_e3, hb324_1, hb335_9, hb340_10, hb346_11, hb351_12])
          · refine own_by (fun t kk_ => XS.ifYes X0.here hx rfl (pc0 := 351) (pc' := 358) rfl (hb hby at_351) rfl ((if0 _ _).trans (feq hb351_12).2) (by decide) (by decide) kk_) ?_
            show OwnG p e below s _ _ _ (T0.setTop (mkF m 358 #[.val (.int va), .val (.int vb), .val (.int vc), .val (.int vd), .val (.int ve), .val (.int k1), .val (.int k2), .val (.int k3), .val (.int ds), .val (.int te), .val (.int pa), .val (.int pb), .val (.int qa), .val (.int qb), .val (.int qc), .val (.ref lk), .val (.ref sq), .val (.int y1), .val (.int y2), .val (.int x19), .val (.int x20), .val (.int x21), .val (.int qc), .unset] []))
            refine own_by (fun t kk_ => XS.iconst X0.here hx rfl (hb hby at_358) kk_) ?_
            show OwnG p e below s _ _ _ (T0.setTop (mkF m 359 #[.val (.int va), .val (.int vb), .val (.int vc), .val (.int vd), .val (.int ve), .val (.int k1), .val (.int k2), .val (.int k3), .val (.int ds), .val (.int te), .val (.int pa), .val (.int pb), .val (.int qa), .val (.int qb), .val (.int qc), .val (.ref lk), .val (.ref sq), .val (.int y1), .val (.int y2), .val (.int x19), .val (.int x20), .val (.int x21), .val (.int qc), .unset] [(.int (0 : Int32))]))
            exact own_t359 va vb vc vd ve k1 k2 k3 ds te pa pb qa qb qc y1 y2 x19 x20 x21 (0 : Int32) lk sq X0 hx hby hml hret hlk hown hnm hZ hw e0 N0 Z0 he1 (by rw [he2]; simp [own_e3, hb324_1, hb335_9, hb340_10, hb346_11, hb351_12])
        · refine own_by (fun t kk_ => XS.icmpYes X0.here hx rfl (pc0 := 346) (pc' := 358) rfl (hb hby at_346) rfl (flt hb346_11).2.2.2 (by decide) (by decide) kk_) ?_
          show OwnG p e below s _ _ _ (T0.setTop (mkF m 358 #[.val (.int va), .val (.int vb), .val (.int vc), .val (.int vd), .val (.int ve), .val (.int k1), .val (.int k2), .val (.int k3), .val (.int ds), .val (.int te), .val (.int pa), .val (.int pb), .val (.int qa), .val (.int qb), .val (.int qc), .val (.ref lk), .val (.ref sq), .val (.int y1), .val (.int y2), .val (.int x19), .val (.int x20), .val (.int x21), .val (.int qc), .unset] []))
          refine own_by (fun t kk_ => XS.iconst X0.here hx rfl (hb hby at_358) kk_) ?_
          show OwnG p e below s _ _ _ (T0.setTop (mkF m 359 #[.val (.int va), .val (.int vb), .val (.int vc), .val (.int vd), .val (.int ve), .val (.int k1), .val (.int k2), .val (.int k3), .val (.int ds), .val (.int te), .val (.int pa), .val (.int pb), .val (.int qa), .val (.int qb), .val (.int qc), .val (.ref lk), .val (.ref sq), .val (.int y1), .val (.int y2), .val (.int x19), .val (.int x20), .val (.int x21), .val (.int qc), .unset] [(.int (0 : Int32))]))
          exact own_t359 va vb vc vd ve k1 k2 k3 ds te pa pb qa qb qc y1 y2 x19 x20 x21 (0 : Int32) lk sq X0 hx hby hml hret hlk hown hnm hZ hw e0 N0 Z0 he1 (by rw [he2]; simp [own_e3, hb324_1, hb335_9, hb340_10, hb346_11])
    · refine own_by (fun t kk_ => XS.icmpYes X0.here hx rfl (pc0 := 335) (pc' := 343) rfl (hb hby at_335) rfl (flt hb335_9).2.2.2 (by decide) (by decide) kk_) ?_
      show OwnG p e below s _ _ _ (T0.setTop (mkF m 343 #[.val (.int va), .val (.int vb), .val (.int vc), .val (.int vd), .val (.int ve), .val (.int k1), .val (.int k2), .val (.int k3), .val (.int ds), .val (.int te), .val (.int pa), .val (.int pb), .val (.int qa), .val (.int qb), .val (.int qc), .val (.ref lk), .val (.ref sq), .val (.int y1), .val (.int y2), .val (.int x19), .val (.int x20), .val (.int x21), .val (.int qc), .unset] []))
      refine own_by (fun t kk_ => XS.iload X0.here hx rfl (hb hby at_343) rfl  kk_) ?_
      show OwnG p e below s _ _ _ (T0.setTop (mkF m 345 #[.val (.int va), .val (.int vb), .val (.int vc), .val (.int vd), .val (.int ve), .val (.int k1), .val (.int k2), .val (.int k3), .val (.int ds), .val (.int te), .val (.int pa), .val (.int pb), .val (.int qa), .val (.int qb), .val (.int qc), .val (.ref lk), .val (.ref sq), .val (.int y1), .val (.int y2), .val (.int x19), .val (.int x20), .val (.int x21), .val (.int qc), .unset] [(.int k3)]))
      refine own_by (fun t kk_ => XS.iconst X0.here hx rfl (hb hby at_345) kk_) ?_
      show OwnG p e below s _ _ _ (T0.setTop (mkF m 346 #[.val (.int va), .val (.int vb), .val (.int vc), .val (.int vd), .val (.int ve), .val (.int k1), .val (.int k2), .val (.int k3), .val (.int ds), .val (.int te), .val (.int pa), .val (.int pb), .val (.int qa), .val (.int qb), .val (.int qc), .val (.ref lk), .val (.ref sq), .val (.int y1), .val (.int y2), .val (.int x19), .val (.int x20), .val (.int x21), .val (.int qc), .unset] [(.int (2 : Int32)), (.int k3)]))
      by_cases hb346_13 : (2 : Int32) < k3
      · refine own_by (fun t kk_ => XS.icmpNo X0.here hx rfl (hb hby at_346) rfl (tlt hb346_13).2.2.2 kk_) ?_
        show OwnG p e below s _ _ _ (T0.setTop (mkF m 349 #[.val (.int va), .val (.int vb), .val (.int vc), .val (.int vd), .val (.int ve), .val (.int k1), .val (.int k2), .val (.int k3), .val (.int ds), .val (.int te), .val (.int pa), .val (.int pb), .val (.int qa), .val (.int qb), .val (.int qc), .val (.ref lk), .val (.ref sq), .val (.int y1), .val (.int y2), .val (.int x19), .val (.int x20), .val (.int x21), .val (.int qc), .unset] []))
        refine own_by (fun t kk_ => XS.iload X0.here hx rfl (hb hby at_349) rfl  kk_) ?_
        show OwnG p e below s _ _ _ (T0.setTop (mkF m 351 #[.val (.int va), .val (.int vb), .val (.int vc), .val (.int vd), .val (.int ve), .val (.int k1), .val (.int k2), .val (.int k3), .val (.int ds), .val (.int te), .val (.int pa), .val (.int pb), .val (.int qa), .val (.int qb), .val (.int qc), .val (.ref lk), .val (.ref sq), .val (.int y1), .val (.int y2), .val (.int x19), .val (.int x20), .val (.int x21), .val (.int qc), .unset] [(.int qc)]))
        by_cases hb351_14 : qc = (0 : Int32)
        · refine own_by (fun t kk_ => XS.ifNo X0.here hx rfl (hb hby at_351) rfl ((if0 _ _).trans (teq hb351_14).2) kk_) ?_
          show OwnG p e below s _ _ _ (T0.setTop (mkF m 354 #[.val (.int va), .val (.int vb), .val (.int vc), .val (.int vd), .val (.int ve), .val (.int k1), .val (.int k2), .val (.int k3), .val (.int ds), .val (.int te), .val (.int pa), .val (.int pb), .val (.int qa), .val (.int qb), .val (.int qc), .val (.ref lk), .val (.ref sq), .val (.int y1), .val (.int y2), .val (.int x19), .val (.int x20), .val (.int x21), .val (.int qc), .unset] []))
          refine own_by (fun t kk_ => XS.iconst X0.here hx rfl (hb hby at_354) kk_) ?_
          show OwnG p e below s _ _ _ (T0.setTop (mkF m 355 #[.val (.int va), .val (.int vb), .val (.int vc), .val (.int vd), .val (.int ve), .val (.int k1), .val (.int k2), .val (.int k3), .val (.int ds), .val (.int te), .val (.int pa), .val (.int pb), .val (.int qa), .val (.int qb), .val (.int qc), .val (.ref lk), .val (.ref sq), .val (.int y1), .val (.int y2), .val (.int x19), .val (.int x20), .val (.int x21), .val (.int qc), .unset] [(.int (1 : Int32))]))
          refine own_by (fun t kk_ => XS.goto X0.here hx rfl (pc0 := 355) (pc' := 359) rfl (hb hby at_355) (by decide) (by decide) kk_) ?_
          show OwnG p e below s _ _ _ (T0.setTop (mkF m 359 #[.val (.int va), .val (.int vb), .val (.int vc), .val (.int vd), .val (.int ve), .val (.int k1), .val (.int k2), .val (.int k3), .val (.int ds), .val (.int te), .val (.int pa), .val (.int pb), .val (.int qa), .val (.int qb), .val (.int qc), .val (.ref lk), .val (.ref sq), .val (.int y1), .val (.int y2), .val (.int x19), .val (.int x20), .val (.int x21), .val (.int qc), .unset] [(.int (1 : Int32))]))
          exact own_t359 va vb vc vd ve k1 k2 k3 ds te pa pb qa qb qc y1 y2 x19 x20 x21 (1 : Int32) lk sq X0 hx hby hml hret hlk hown hnm hZ hw e0 N0 Z0 he1 (by rw [he2]; simp [own_e3, hb324_1, hb335_9, hb346_13, hb351_14])
        · refine own_by (fun t kk_ => XS.ifYes X0.here hx rfl (pc0 := 351) (pc' := 358) rfl (hb hby at_351) rfl ((if0 _ _).trans (feq hb351_14).2) (by decide) (by decide) kk_) ?_
          show OwnG p e below s _ _ _ (T0.setTop (mkF m 358 #[.val (.int va), .val (.int vb), .val (.int vc), .val (.int vd), .val (.int ve), .val (.int k1), .val (.int k2), .val (.int k3), .val (.int ds), .val (.int te), .val (.int pa), .val (.int pb), .val (.int qa), .val (.int qb), .val (.int qc), .val (.ref lk), .val (.ref sq), .val (.int y1), .val (.int y2), .val (.int x19), .val (.int x20), .val (.int x21), .val (.int qc), .unset] []))
          refine own_by (fun t kk_ => XS.iconst X0.here hx rfl (hb hby at_358) kk_) ?_
          show OwnG p e below s _ _ _ (T0.setTop (mkF m 359 #[.val (.int va), .val (.int vb), .val (.int vc), .val (.int vd), .val (.int ve), .val (.int k1), .val (.int k2), .val (.int k3), .val (.int ds), .val (.int te), .val (.int pa), .val (.int pb), .val (.int qa), .val (.int qb), .val (.int qc), .val (.ref lk), .val (.ref sq), .val (.int y1), .val (.int y2), .val (.int x19), .val (.int x20), .val (.int x21), .val (.int qc), .unset] [(.int (0 : Int32))]))
          exact own_t359 va vb vc vd ve k1 k2 k3 ds te pa pb qa qb qc y1 y2 x19 x20 x21 (0 : Int32) lk sq X0 hx hby hml hret hlk hown hnm hZ hw e0 N0 Z0 he1 (by rw [he2]; simp [own_e3, hb324_1, hb335_9, hb346_13, hb351_14])
      · refine own_by (fun t kk_ => XS.icmpYes X0.here hx rfl (pc0 := 346) (pc' := 358) rfl (hb hby at_346) rfl (flt hb346_13).2.2.2 (by decide) (by decide) kk_) ?_
        show OwnG p e below s _ _ _ (T0.setTop (mkF m 358 #[.val (.int va), .val (.int vb), .val (.int vc), .val (.int vd), .val (.int ve), .val (.int k1), .val (.int k2), .val (.int k3), .val (.int ds), .val (.int te), .val (.int pa), .val (.int pb), .val (.int qa), .val (.int qb), .val (.int qc), .val (.ref lk), .val (.ref sq), .val (.int y1), .val (.int y2), .val (.int x19), .val (.int x20), .val (.int x21), .val (.int qc), .unset] []))
        refine own_by (fun t kk_ => XS.iconst X0.here hx rfl (hb hby at_358) kk_) ?_
        show OwnG p e below s _ _ _ (T0.setTop (mkF m 359 #[.val (.int va), .val (.int vb), .val (.int vc), .val (.int vd), .val (.int ve), .val (.int k1), .val (.int k2), .val (.int k3), .val (.int ds), .val (.int te), .val (.int pa), .val (.int pb), .val (.int qa), .val (.int qb), .val (.int qc), .val (.ref lk), .val (.ref sq), .val (.int y1), .val (.int y2), .val (.int x19), .val (.int x20), .val (.int x21), .val (.int qc), .unset] [(.int (0 : Int32))]))
        exact own_t359 va vb vc vd ve k1 k2 k3 ds te pa pb qa qb qc y1 y2 x19 x20 x21 (0 : Int32) lk sq X0 hx hby hml hret hlk hown hnm hZ hw e0 N0 Z0 he1 (by rw [he2]; simp [own_e3, hb324_1, hb335_9, hb346_13])
set_option maxRecDepth 65536 in
set_option maxHeartbeats 40000000 in
theorem own_t299 {p : Program} {l : Launch} {e : Env} {s : State} {m : MethodId} {args : Array Value} {below : List Frame} {meth : Method} {c : Code} {T0 : State} {locs : List Loc} {Z : State} {a0 : Array Value} {h0 : Heap} {n0 : Nat} (va vb vc vd ve k1 k2 k3 ds te pa pb qa qb qc y1 y2 x19 x20 : Int32) (lk sq : Addr) (X0 : Stand p l e room_1 s m args below meth c T0 locs (0 + 1 + 1 + 3) (0 + 0 + 3 + 5)) (hx : p.tables.exec = Jvm.exec) (hby : c.code = code) (hml : c.maxLocals = 24) (hret : meth.sig.returnType = some .boolean) (hlk : meth.locks = false) (hown : s.vm.findClass "com/example/score_on_crawl/scoreoncrawl/engine/BreadthFirstSequenceHasNextPinLaw" = some m.cls) (hnm : meth.name = "law") (hZ : Z.Warmed39 s.vm) (hw : ∀ d ∈ tables_1, d.before a0 Z = true) (e0 : T0.heap = h0) (N0 : Fr n0 locs) (Z0 : n0 ≤ h0.size) (he1 : y1 = x19) (he2 : y2 = own_e3 k3 x20 (own_or2 pb qb) qc) :
    OwnG p e below s (fun v h L => v = some (.int (1 : Int32)) ∧ Fr n0 L) room_1.cells room_1.slots (T0.setTop (mkF m 299 #[.val (.int va), .val (.int vb), .val (.int vc), .val (.int vd), .val (.int ve), .val (.int k1), .val (.int k2), .val (.int k3), .val (.int ds), .val (.int te), .val (.int pa), .val (.int pb), .val (.int qa), .val (.int qb), .val (.int qc), .val (.ref lk), .val (.ref sq), .val (.int y1), .val (.int y2), .val (.int x19), .unset, .unset, .unset, .unset] [(.int x20)])) := by
  show OwnG p e below s _ _ _ (T0.setTop (mkF m 299 #[.val (.int va), .val (.int vb), .val (.int vc), .val (.int vd), .val (.int ve), .val (.int k1), .val (.int k2), .val (.int k3), .val (.int ds), .val (.int te), .val (.int pa), .val (.int pb), .val (.int qa), .val (.int qb), .val (.int qc), .val (.ref lk), .val (.ref sq), .val (.int y1), .val (.int y2), .val (.int x19), .unset, .unset, .unset, .unset] [(.int x20)]))
  refine own_by (fun t kk_ => XS.istore X0.here hx rfl (hb hby at_299) rfl (l' := #[.val (.int va), .val (.int vb), .val (.int vc), .val (.int vd), .val (.int ve), .val (.int k1), .val (.int k2), .val (.int k3), .val (.int ds), .val (.int te), .val (.int pa), .val (.int pb), .val (.int qa), .val (.int qb), .val (.int qc), .val (.ref lk), .val (.ref sq), .val (.int y1), .val (.int y2), .val (.int x19), .val (.int x20), .unset, .unset, .unset]) rfl kk_) ?_
  show OwnG p e below s _ _ _ (T0.setTop (mkF m 301 #[.val (.int va), .val (.int vb), .val (.int vc), .val (.int vd), .val (.int ve), .val (.int k1), .val (.int k2), .val (.int k3), .val (.int ds), .val (.int te), .val (.int pa), .val (.int pb), .val (.int qa), .val (.int qb), .val (.int qc), .val (.ref lk), .val (.ref sq), .val (.int y1), .val (.int y2), .val (.int x19), .val (.int x20), .unset, .unset, .unset] []))
  refine own_by (fun t kk_ => XS.iload X0.here hx rfl (hb hby at_301) rfl  kk_) ?_
  show OwnG p e below s _ _ _ (T0.setTop (mkF m 303 #[.val (.int va), .val (.int vb), .val (.int vc), .val (.int vd), .val (.int ve), .val (.int k1), .val (.int k2), .val (.int k3), .val (.int ds), .val (.int te), .val (.int pa), .val (.int pb), .val (.int qa), .val (.int qb), .val (.int qc), .val (.ref lk), .val (.ref sq), .val (.int y1), .val (.int y2), .val (.int x19), .val (.int x20), .unset, .unset, .unset] [(.int pb)]))
  by_cases hb303_1 : pb = (0 : Int32)
  · refine own_by (fun t kk_ => XS.ifNo X0.here hx rfl (hb hby at_303) rfl ((if0 _ _).trans (teq hb303_1).2) kk_) ?_
    show OwnG p e below s _ _ _ (T0.setTop (mkF m 306 #[.val (.int va), .val (.int vb), .val (.int vc), .val (.int vd), .val (.int ve), .val (.int k1), .val (.int k2), .val (.int k3), .val (.int ds), .val (.int te), .val (.int pa), .val (.int pb), .val (.int qa), .val (.int qb), .val (.int qc), .val (.ref lk), .val (.ref sq), .val (.int y1), .val (.int y2), .val (.int x19), .val (.int x20), .unset, .unset, .unset] []))
    refine own_by (fun t kk_ => XS.iload X0.here hx rfl (hb hby at_306) rfl  kk_) ?_
    show OwnG p e below s _ _ _ (T0.setTop (mkF m 308 #[.val (.int va), .val (.int vb), .val (.int vc), .val (.int vd), .val (.int ve), .val (.int k1), .val (.int k2), .val (.int k3), .val (.int ds), .val (.int te), .val (.int pa), .val (.int pb), .val (.int qa), .val (.int qb), .val (.int qc), .val (.ref lk), .val (.ref sq), .val (.int y1), .val (.int y2), .val (.int x19), .val (.int x20), .unset, .unset, .unset] [(.int qb)]))
    by_cases hb308_2 : qb = (0 : Int32)
    · refine own_by (fun t kk_ => XS.ifYes X0.here hx rfl (pc0 := 308) (pc' := 315) rfl (hb hby at_308) rfl ((if0 _ _).trans (teq hb308_2).1) (by decide) (by decide) kk_) ?_
      show OwnG p e below s _ _ _ (T0.setTop (mkF m 315 #[.val (.int va), .val (.int vb), .val (.int vc), .val (.int vd), .val (.int ve), .val (.int k1), .val (.int k2), .val (.int k3), .val (.int ds), .val (.int te), .val (.int pa), .val (.int pb), .val (.int qa), .val (.int qb), .val (.int qc), .val (.ref lk), .val (.ref sq), .val (.int y1), .val (.int y2), .val (.int x19), .val (.int x20), .unset, .unset, .unset] []))
      refine own_by (fun t kk_ => XS.iconst X0.here hx rfl (hb hby at_315) kk_) ?_
      show OwnG p e below s _ _ _ (T0.setTop (mkF m 316 #[.val (.int va), .val (.int vb), .val (.int vc), .val (.int vd), .val (.int ve), .val (.int k1), .val (.int k2), .val (.int k3), .val (.int ds), .val (.int te), .val (.int pa), .val (.int pb), .val (.int qa), .val (.int qb), .val (.int qc), .val (.ref lk), .val (.ref sq), .val (.int y1), .val (.int y2), .val (.int x19), .val (.int x20), .unset, .unset, .unset] [(.int (0 : Int32))]))
      exact own_t316 va vb vc vd ve k1 k2 k3 ds te pa pb qa qb qc y1 y2 x19 x20 (0 : Int32) lk sq X0 hx hby hml hret hlk hown hnm hZ hw e0 N0 Z0 he1 (by rw [he2, show own_or2 pb qb = (0 : Int32) from by simp [own_or2, hb303_1, hb308_2]])
    · refine own_by (fun t kk_ => XS.ifNo X0.here hx rfl (hb hby at_308) rfl ((if0 _ _).trans (feq hb308_2).1) kk_) ?_
      show OwnG p e below s _ _ _ (T0.setTop (mkF m 311 #[.val (.int va), .val (.int vb), .val (.int vc), .val (.int vd), .val (.int ve), .val (.int k1), .val (.int k2), .val (.int k3), .val (.int ds), .val (.int te), .val (.int pa), .val (.int pb), .val (.int qa), .val (.int qb), .val (.int qc), .val (.ref lk), .val (.ref sq), .val (.int y1), .val (.int y2), .val (.int x19), .val (.int x20), .unset, .unset, .unset] []))
      refine own_by (fun t kk_ => XS.iconst X0.here hx rfl (hb hby at_311) kk_) ?_
      show OwnG p e below s _ _ _ (T0.setTop (mkF m 312 #[.val (.int va), .val (.int vb), .val (.int vc), .val (.int vd), .val (.int ve), .val (.int k1), .val (.int k2), .val (.int k3), .val (.int ds), .val (.int te), .val (.int pa), .val (.int pb), .val (.int qa), .val (.int qb), .val (.int qc), .val (.ref lk), .val (.ref sq), .val (.int y1), .val (.int y2), .val (.int x19), .val (.int x20), .unset, .unset, .unset] [(.int (1 : Int32))]))
      refine own_by (fun t kk_ => XS.goto X0.here hx rfl (pc0 := 312) (pc' := 316) rfl (hb hby at_312) (by decide) (by decide) kk_) ?_
      show OwnG p e below s _ _ _ (T0.setTop (mkF m 316 #[.val (.int va), .val (.int vb), .val (.int vc), .val (.int vd), .val (.int ve), .val (.int k1), .val (.int k2), .val (.int k3), .val (.int ds), .val (.int te), .val (.int pa), .val (.int pb), .val (.int qa), .val (.int qb), .val (.int qc), .val (.ref lk), .val (.ref sq), .val (.int y1), .val (.int y2), .val (.int x19), .val (.int x20), .unset, .unset, .unset] [(.int (1 : Int32))]))
      exact own_t316 va vb vc vd ve k1 k2 k3 ds te pa pb qa qb qc y1 y2 x19 x20 (1 : Int32) lk sq X0 hx hby hml hret hlk hown hnm hZ hw e0 N0 Z0 he1 (by rw [he2, show own_or2 pb qb = (1 : Int32) from by simp [own_or2, hb303_1, hb308_2]])
  · refine own_by (fun t kk_ => XS.ifYes X0.here hx rfl (pc0 := 303) (pc' := 311) rfl (hb hby at_303) rfl ((if0 _ _).trans (feq hb303_1).2) (by decide) (by decide) kk_) ?_
    show OwnG p e below s _ _ _ (T0.setTop (mkF m 311 #[.val (.int va), .val (.int vb), .val (.int vc), .val (.int vd), .val (.int ve), .val (.int k1), .val (.int k2), .val (.int k3), .val (.int ds), .val (.int te), .val (.int pa), .val (.int pb), .val (.int qa), .val (.int qb), .val (.int qc), .val (.ref lk), .val (.ref sq), .val (.int y1), .val (.int y2), .val (.int x19), .val (.int x20), .unset, .unset, .unset] []))
    refine own_by (fun t kk_ => XS.iconst X0.here hx rfl (hb hby at_311) kk_) ?_
    show OwnG p e below s _ _ _ (T0.setTop (mkF m 312 #[.val (.int va), .val (.int vb), .val (.int vc), .val (.int vd), .val (.int ve), .val (.int k1), .val (.int k2), .val (.int k3), .val (.int ds), .val (.int te), .val (.int pa), .val (.int pb), .val (.int qa), .val (.int qb), .val (.int qc), .val (.ref lk), .val (.ref sq), .val (.int y1), .val (.int y2), .val (.int x19), .val (.int x20), .unset, .unset, .unset] [(.int (1 : Int32))]))
    refine own_by (fun t kk_ => XS.goto X0.here hx rfl (pc0 := 312) (pc' := 316) rfl (hb hby at_312) (by decide) (by decide) kk_) ?_
    show OwnG p e below s _ _ _ (T0.setTop (mkF m 316 #[.val (.int va), .val (.int vb), .val (.int vc), .val (.int vd), .val (.int ve), .val (.int k1), .val (.int k2), .val (.int k3), .val (.int ds), .val (.int te), .val (.int pa), .val (.int pb), .val (.int qa), .val (.int qb), .val (.int qc), .val (.ref lk), .val (.ref sq), .val (.int y1), .val (.int y2), .val (.int x19), .val (.int x20), .unset, .unset, .unset] [(.int (1 : Int32))]))
    exact own_t316 va vb vc vd ve k1 k2 k3 ds te pa pb qa qb qc y1 y2 x19 x20 (1 : Int32) lk sq X0 hx hby hml hret hlk hown hnm hZ hw e0 N0 Z0 he1 (by rw [he2, show own_or2 pb qb = (1 : Int32) from by simp [own_or2, hb303_1]])
set_option maxRecDepth 65536 in
set_option maxHeartbeats 40000000 in
theorem own_t282 {p : Program} {l : Launch} {e : Env} {s : State} {m : MethodId} {args : Array Value} {below : List Frame} {meth : Method} {c : Code} {T0 : State} {locs : List Loc} {Z : State} {a0 : Array Value} {h0 : Heap} {n0 : Nat} (va vb vc vd ve k1 k2 k3 ds te pa pb qa qb qc y1 y2 x19 : Int32) (lk sq : Addr) (X0 : Stand p l e room_1 s m args below meth c T0 locs (0 + 1 + 1 + 3) (0 + 0 + 3 + 5)) (hx : p.tables.exec = Jvm.exec) (hby : c.code = code) (hml : c.maxLocals = 24) (hret : meth.sig.returnType = some .boolean) (hlk : meth.locks = false) (hown : s.vm.findClass "com/example/score_on_crawl/scoreoncrawl/engine/BreadthFirstSequenceHasNextPinLaw" = some m.cls) (hnm : meth.name = "law") (hZ : Z.Warmed39 s.vm) (hw : ∀ d ∈ tables_1, d.before a0 Z = true) (e0 : T0.heap = h0) (N0 : Fr n0 locs) (Z0 : n0 ≤ h0.size) (he1 : y1 = x19) (he2 : y2 = own_e3 k3 (own_or2 pa qa) (own_or2 pb qb) qc) :
    OwnG p e below s (fun v h L => v = some (.int (1 : Int32)) ∧ Fr n0 L) room_1.cells room_1.slots (T0.setTop (mkF m 282 #[.val (.int va), .val (.int vb), .val (.int vc), .val (.int vd), .val (.int ve), .val (.int k1), .val (.int k2), .val (.int k3), .val (.int ds), .val (.int te), .val (.int pa), .val (.int pb), .val (.int qa), .val (.int qb), .val (.int qc), .val (.ref lk), .val (.ref sq), .val (.int y1), .val (.int y2), .unset, .unset, .unset, .unset, .unset] [(.int x19)])) := by
  show OwnG p e below s _ _ _ (T0.setTop (mkF m 282 #[.val (.int va), .val (.int vb), .val (.int vc), .val (.int vd), .val (.int ve), .val (.int k1), .val (.int k2), .val (.int k3), .val (.int ds), .val (.int te), .val (.int pa), .val (.int pb), .val (.int qa), .val (.int qb), .val (.int qc), .val (.ref lk), .val (.ref sq), .val (.int y1), .val (.int y2), .unset, .unset, .unset, .unset, .unset] [(.int x19)]))
  refine own_by (fun t kk_ => XS.istore X0.here hx rfl (hb hby at_282) rfl (l' := #[.val (.int va), .val (.int vb), .val (.int vc), .val (.int vd), .val (.int ve), .val (.int k1), .val (.int k2), .val (.int k3), .val (.int ds), .val (.int te), .val (.int pa), .val (.int pb), .val (.int qa), .val (.int qb), .val (.int qc), .val (.ref lk), .val (.ref sq), .val (.int y1), .val (.int y2), .val (.int x19), .unset, .unset, .unset, .unset]) rfl kk_) ?_
  show OwnG p e below s _ _ _ (T0.setTop (mkF m 284 #[.val (.int va), .val (.int vb), .val (.int vc), .val (.int vd), .val (.int ve), .val (.int k1), .val (.int k2), .val (.int k3), .val (.int ds), .val (.int te), .val (.int pa), .val (.int pb), .val (.int qa), .val (.int qb), .val (.int qc), .val (.ref lk), .val (.ref sq), .val (.int y1), .val (.int y2), .val (.int x19), .unset, .unset, .unset, .unset] []))
  refine own_by (fun t kk_ => XS.iload X0.here hx rfl (hb hby at_284) rfl  kk_) ?_
  show OwnG p e below s _ _ _ (T0.setTop (mkF m 286 #[.val (.int va), .val (.int vb), .val (.int vc), .val (.int vd), .val (.int ve), .val (.int k1), .val (.int k2), .val (.int k3), .val (.int ds), .val (.int te), .val (.int pa), .val (.int pb), .val (.int qa), .val (.int qb), .val (.int qc), .val (.ref lk), .val (.ref sq), .val (.int y1), .val (.int y2), .val (.int x19), .unset, .unset, .unset, .unset] [(.int pa)]))
  by_cases hb286_1 : pa = (0 : Int32)
  · refine own_by (fun t kk_ => XS.ifNo X0.here hx rfl (hb hby at_286) rfl ((if0 _ _).trans (teq hb286_1).2) kk_) ?_
    show OwnG p e below s _ _ _ (T0.setTop (mkF m 289 #[.val (.int va), .val (.int vb), .val (.int vc), .val (.int vd), .val (.int ve), .val (.int k1), .val (.int k2), .val (.int k3), .val (.int ds), .val (.int te), .val (.int pa), .val (.int pb), .val (.int qa), .val (.int qb), .val (.int qc), .val (.ref lk), .val (.ref sq), .val (.int y1), .val (.int y2), .val (.int x19), .unset, .unset, .unset, .unset] []))
    refine own_by (fun t kk_ => XS.iload X0.here hx rfl (hb hby at_289) rfl  kk_) ?_
    show OwnG p e below s _ _ _ (T0.setTop (mkF m 291 #[.val (.int va), .val (.int vb), .val (.int vc), .val (.int vd), .val (.int ve), .val (.int k1), .val (.int k2), .val (.int k3), .val (.int ds), .val (.int te), .val (.int pa), .val (.int pb), .val (.int qa), .val (.int qb), .val (.int qc), .val (.ref lk), .val (.ref sq), .val (.int y1), .val (.int y2), .val (.int x19), .unset, .unset, .unset, .unset] [(.int qa)]))
    by_cases hb291_2 : qa = (0 : Int32)
    · refine own_by (fun t kk_ => XS.ifYes X0.here hx rfl (pc0 := 291) (pc' := 298) rfl (hb hby at_291) rfl ((if0 _ _).trans (teq hb291_2).1) (by decide) (by decide) kk_) ?_
      show OwnG p e below s _ _ _ (T0.setTop (mkF m 298 #[.val (.int va), .val (.int vb), .val (.int vc), .val (.int vd), .val (.int ve), .val (.int k1), .val (.int k2), .val (.int k3), .val (.int ds), .val (.int te), .val (.int pa), .val (.int pb), .val (.int qa), .val (.int qb), .val (.int qc), .val (.ref lk), .val (.ref sq), .val (.int y1), .val (.int y2), .val (.int x19), .unset, .unset, .unset, .unset] []))
      refine own_by (fun t kk_ => XS.iconst X0.here hx rfl (hb hby at_298) kk_) ?_
      show OwnG p e below s _ _ _ (T0.setTop (mkF m 299 #[.val (.int va), .val (.int vb), .val (.int vc), .val (.int vd), .val (.int ve), .val (.int k1), .val (.int k2), .val (.int k3), .val (.int ds), .val (.int te), .val (.int pa), .val (.int pb), .val (.int qa), .val (.int qb), .val (.int qc), .val (.ref lk), .val (.ref sq), .val (.int y1), .val (.int y2), .val (.int x19), .unset, .unset, .unset, .unset] [(.int (0 : Int32))]))
      exact own_t299 va vb vc vd ve k1 k2 k3 ds te pa pb qa qb qc y1 y2 x19 (0 : Int32) lk sq X0 hx hby hml hret hlk hown hnm hZ hw e0 N0 Z0 he1 (by rw [he2, show own_or2 pa qa = (0 : Int32) from by simp [own_or2, hb286_1, hb291_2]])
    · refine own_by (fun t kk_ => XS.ifNo X0.here hx rfl (hb hby at_291) rfl ((if0 _ _).trans (feq hb291_2).1) kk_) ?_
      show OwnG p e below s _ _ _ (T0.setTop (mkF m 294 #[.val (.int va), .val (.int vb), .val (.int vc), .val (.int vd), .val (.int ve), .val (.int k1), .val (.int k2), .val (.int k3), .val (.int ds), .val (.int te), .val (.int pa), .val (.int pb), .val (.int qa), .val (.int qb), .val (.int qc), .val (.ref lk), .val (.ref sq), .val (.int y1), .val (.int y2), .val (.int x19), .unset, .unset, .unset, .unset] []))
      refine own_by (fun t kk_ => XS.iconst X0.here hx rfl (hb hby at_294) kk_) ?_
      show OwnG p e below s _ _ _ (T0.setTop (mkF m 295 #[.val (.int va), .val (.int vb), .val (.int vc), .val (.int vd), .val (.int ve), .val (.int k1), .val (.int k2), .val (.int k3), .val (.int ds), .val (.int te), .val (.int pa), .val (.int pb), .val (.int qa), .val (.int qb), .val (.int qc), .val (.ref lk), .val (.ref sq), .val (.int y1), .val (.int y2), .val (.int x19), .unset, .unset, .unset, .unset] [(.int (1 : Int32))]))
      refine own_by (fun t kk_ => XS.goto X0.here hx rfl (pc0 := 295) (pc' := 299) rfl (hb hby at_295) (by decide) (by decide) kk_) ?_
      show OwnG p e below s _ _ _ (T0.setTop (mkF m 299 #[.val (.int va), .val (.int vb), .val (.int vc), .val (.int vd), .val (.int ve), .val (.int k1), .val (.int k2), .val (.int k3), .val (.int ds), .val (.int te), .val (.int pa), .val (.int pb), .val (.int qa), .val (.int qb), .val (.int qc), .val (.ref lk), .val (.ref sq), .val (.int y1), .val (.int y2), .val (.int x19), .unset, .unset, .unset, .unset] [(.int (1 : Int32))]))
      exact own_t299 va vb vc vd ve k1 k2 k3 ds te pa pb qa qb qc y1 y2 x19 (1 : Int32) lk sq X0 hx hby hml hret hlk hown hnm hZ hw e0 N0 Z0 he1 (by rw [he2, show own_or2 pa qa = (1 : Int32) from by simp [own_or2, hb286_1, hb291_2]])
  · refine own_by (fun t kk_ => XS.ifYes X0.here hx rfl (pc0 := 286) (pc' := 294) rfl (hb hby at_286) rfl ((if0 _ _).trans (feq hb286_1).2) (by decide) (by decide) kk_) ?_
    show OwnG p e below s _ _ _ (T0.setTop (mkF m 294 #[.val (.int va), .val (.int vb), .val (.int vc), .val (.int vd), .val (.int ve), .val (.int k1), .val (.int k2), .val (.int k3), .val (.int ds), .val (.int te), .val (.int pa), .val (.int pb), .val (.int qa), .val (.int qb), .val (.int qc), .val (.ref lk), .val (.ref sq), .val (.int y1), .val (.int y2), .val (.int x19), .unset, .unset, .unset, .unset] []))
    refine own_by (fun t kk_ => XS.iconst X0.here hx rfl (hb hby at_294) kk_) ?_
    show OwnG p e below s _ _ _ (T0.setTop (mkF m 295 #[.val (.int va), .val (.int vb), .val (.int vc), .val (.int vd), .val (.int ve), .val (.int k1), .val (.int k2), .val (.int k3), .val (.int ds), .val (.int te), .val (.int pa), .val (.int pb), .val (.int qa), .val (.int qb), .val (.int qc), .val (.ref lk), .val (.ref sq), .val (.int y1), .val (.int y2), .val (.int x19), .unset, .unset, .unset, .unset] [(.int (1 : Int32))]))
    refine own_by (fun t kk_ => XS.goto X0.here hx rfl (pc0 := 295) (pc' := 299) rfl (hb hby at_295) (by decide) (by decide) kk_) ?_
    show OwnG p e below s _ _ _ (T0.setTop (mkF m 299 #[.val (.int va), .val (.int vb), .val (.int vc), .val (.int vd), .val (.int ve), .val (.int k1), .val (.int k2), .val (.int k3), .val (.int ds), .val (.int te), .val (.int pa), .val (.int pb), .val (.int qa), .val (.int qb), .val (.int qc), .val (.ref lk), .val (.ref sq), .val (.int y1), .val (.int y2), .val (.int x19), .unset, .unset, .unset, .unset] [(.int (1 : Int32))]))
    exact own_t299 va vb vc vd ve k1 k2 k3 ds te pa pb qa qb qc y1 y2 x19 (1 : Int32) lk sq X0 hx hby hml hret hlk hown hnm hZ hw e0 N0 Z0 he1 (by rw [he2, show own_or2 pa qa = (1 : Int32) from by simp [own_or2, hb286_1]])
set_option maxRecDepth 65536 in
set_option maxHeartbeats 40000000 in
theorem own_t256 {p : Program} {l : Launch} {e : Env} {s : State} {m : MethodId} {args : Array Value} {below : List Frame} {meth : Method} {c : Code} {T0 : State} {locs : List Loc} {Z : State} {a0 : Array Value} {h0 : Heap} {n0 : Nat} (va vb vc vd ve k1 k2 k3 ds te pa pb qa qb qc y1 y2 : Int32) (lk sq : Addr) (X0 : Stand p l e room_1 s m args below meth c T0 locs (0 + 1 + 1 + 3) (0 + 0 + 3 + 5)) (hx : p.tables.exec = Jvm.exec) (hby : c.code = code) (hml : c.maxLocals = 24) (hret : meth.sig.returnType = some .boolean) (hlk : meth.locks = false) (hown : s.vm.findClass "com/example/score_on_crawl/scoreoncrawl/engine/BreadthFirstSequenceHasNextPinLaw" = some m.cls) (hnm : meth.name = "law") (hZ : Z.Warmed39 s.vm) (hw : ∀ d ∈ tables_1, d.before a0 Z = true) (e0 : T0.heap = h0) (N0 : Fr n0 locs) (Z0 : n0 ≤ h0.size) (he1 : y1 = own_e2 k1 pa pb) (he2 : y2 = own_e3 k3 (own_or2 pa qa) (own_or2 pb qb) qc) :
    OwnG p e below s (fun v h L => v = some (.int (1 : Int32)) ∧ Fr n0 L) room_1.cells room_1.slots (T0.setTop (mkF m 256 #[.val (.int va), .val (.int vb), .val (.int vc), .val (.int vd), .val (.int ve), .val (.int k1), .val (.int k2), .val (.int k3), .val (.int ds), .val (.int te), .val (.int pa), .val (.int pb), .val (.int qa), .val (.int qb), .val (.int qc), .val (.ref lk), .val (.ref sq), .val (.int y1), .val (.int y2), .unset, .unset, .unset, .unset, .unset] [])) := by
  show OwnG p e below s _ _ _ (T0.setTop (mkF m 256 #[.val (.int va), .val (.int vb), .val (.int vc), .val (.int vd), .val (.int ve), .val (.int k1), .val (.int k2), .val (.int k3), .val (.int ds), .val (.int te), .val (.int pa), .val (.int pb), .val (.int qa), .val (.int qb), .val (.int qc), .val (.ref lk), .val (.ref sq), .val (.int y1), .val (.int y2), .unset, .unset, .unset, .unset, .unset] []))
  refine own_by (fun t kk_ => XS.iload X0.here hx rfl (hb hby at_256) rfl  kk_) ?_
  show OwnG p e below s _ _ _ (T0.setTop (mkF m 258 #[.val (.int va), .val (.int vb), .val (.int vc), .val (.int vd), .val (.int ve), .val (.int k1), .val (.int k2), .val (.int k3), .val (.int ds), .val (.int te), .val (.int pa), .val (.int pb), .val (.int qa), .val (.int qb), .val (.int qc), .val (.ref lk), .val (.ref sq), .val (.int y1), .val (.int y2), .unset, .unset, .unset, .unset, .unset] [(.int k1)]))
  by_cases hb258_1 : (0 : Int32) < k1
  · refine own_by (fun t kk_ => XS.ifNo X0.here hx rfl (hb hby at_258) rfl ((if0 _ _).trans (tlt hb258_1).2.2.2) kk_) ?_
    show OwnG p e below s _ _ _ (T0.setTop (mkF m 261 #[.val (.int va), .val (.int vb), .val (.int vc), .val (.int vd), .val (.int ve), .val (.int k1), .val (.int k2), .val (.int k3), .val (.int ds), .val (.int te), .val (.int pa), .val (.int pb), .val (.int qa), .val (.int qb), .val (.int qc), .val (.ref lk), .val (.ref sq), .val (.int y1), .val (.int y2), .unset, .unset, .unset, .unset, .unset] []))
    refine own_by (fun t kk_ => XS.iload X0.here hx rfl (hb hby at_261) rfl  kk_) ?_
    show OwnG p e below s _ _ _ (T0.setTop (mkF m 263 #[.val (.int va), .val (.int vb), .val (.int vc), .val (.int vd), .val (.int ve), .val (.int k1), .val (.int k2), .val (.int k3), .val (.int ds), .val (.int te), .val (.int pa), .val (.int pb), .val (.int qa), .val (.int qb), .val (.int qc), .val (.ref lk), .val (.ref sq), .val (.int y1), .val (.int y2), .unset, .unset, .unset, .unset, .unset] [(.int pa)]))
    by_cases hb263_2 : pa = (0 : Int32)
    · refine own_by (fun t kk_ => XS.ifYes X0.here hx rfl (pc0 := 263) (pc' := 277) rfl (hb hby at_263) rfl ((if0 _ _).trans (teq hb263_2).1) (by decide) (by decide) kk_) ?_
      show OwnG p e below s _ _ _ (T0.setTop (mkF m 277 #[.val (.int va), .val (.int vb), .val (.int vc), .val (.int vd), .val (.int ve), .val (.int k1), .val (.int k2), .val (.int k3), .val (.int ds), .val (.int te), .val (.int pa), .val (.int pb), .val (.int qa), .val (.int qb), .val (.int qc), .val (.ref lk), .val (.ref sq), .val (.int y1), .val (.int y2), .unset, .unset, .unset, .unset, .unset] []))
      refine own_by (fun t kk_ => XS.iconst X0.here hx rfl (hb hby at_277) kk_) ?_
      show OwnG p e below s _ _ _ (T0.setTop (mkF m 278 #[.val (.int va), .val (.int vb), .val (.int vc), .val (.int vd), .val (.int ve), .val (.int k1), .val (.int k2), .val (.int k3), .val (.int ds), .val (.int te), .val (.int pa), .val (.int pb), .val (.int qa), .val (.int qb), .val (.int qc), .val (.ref lk), .val (.ref sq), .val (.int y1), .val (.int y2), .unset, .unset, .unset, .unset, .unset] [(.int (1 : Int32))]))
      refine own_by (fun t kk_ => XS.goto X0.here hx rfl (pc0 := 278) (pc' := 282) rfl (hb hby at_278) (by decide) (by decide) kk_) ?_
      show OwnG p e below s _ _ _ (T0.setTop (mkF m 282 #[.val (.int va), .val (.int vb), .val (.int vc), .val (.int vd), .val (.int ve), .val (.int k1), .val (.int k2), .val (.int k3), .val (.int ds), .val (.int te), .val (.int pa), .val (.int pb), .val (.int qa), .val (.int qb), .val (.int qc), .val (.ref lk), .val (.ref sq), .val (.int y1), .val (.int y2), .unset, .unset, .unset, .unset, .unset] [(.int (1 : Int32))]))
      exact own_t282 va vb vc vd ve k1 k2 k3 ds te pa pb qa qb qc y1 y2 (1 : Int32) lk sq X0 hx hby hml hret hlk hown hnm hZ hw e0 N0 Z0 (by rw [he1]; simp [own_e2, hb258_1, hb263_2]) he2
    · refine own_by (fun t kk_ => XS.ifNo X0.here hx rfl (hb hby at_263) rfl ((if0 _ _).trans (feq hb263_2).1) kk_) ?_
      show OwnG p e below s _ _ _ (T0.setTop (mkF m 266 #[.val (.int va), .val (.int vb), .val (.int vc), .val (.int vd), .val (.int ve), .val (.int k1), .val (.int k2), .val (.int k3), .val (.int ds), .val (.int te), .val (.int pa), .val (.int pb), .val (.int qa), .val (.int qb), .val (.int qc), .val (.ref lk), .val (.ref sq), .val (.int y1), .val (.int y2), .unset, .unset, .unset, .unset, .unset] []))
      refine own_by (fun t kk_ => XS.iload X0.here hx rfl (hb hby at_266) rfl  kk_) ?_
      show OwnG p e below s _ _ _ (T0.setTop (mkF m 268 #[.val (.int va), .val (.int vb), .val (.int vc), .val (.int vd), .val (.int ve), .val (.int k1), .val (.int k2), .val (.int k3), .val (.int ds), .val (.int te), .val (.int pa), .val (.int pb), .val (.int qa), .val (.int qb), .val (.int qc), .val (.ref lk), .val (.ref sq), .val (.int y1), .val (.int y2), .unset, .unset, .unset, .unset, .unset] [(.int k1)]))
      refine own_by (fun t kk_ => XS.iconst X0.here hx rfl (hb hby at_268) kk_) ?_
      show OwnG p e below s _ _ _ (T0.setTop (mkF m 269 #[.val (.int va), .val (.int vb), .val (.int vc), .val (.int vd), .val (.int ve), .val (.int k1), .val (.int k2), .val (.int k3), .val (.int ds), .val (.int te), .val (.int pa), .val (.int pb), .val (.int qa), .val (.int qb), .val (.int qc), .val (.ref lk), .val (.ref sq), .val (.int y1), .val (.int y2), .unset, .unset, .unset, .unset, .unset] [(.int (1 : Int32)), (.int k1)]))
      by_cases hb269_3 : (1 : Int32) < k1
      · refine own_by (fun t kk_ => XS.icmpNo X0.here hx rfl (hb hby at_269) rfl (tlt hb269_3).2.2.2 kk_) ?_
        show OwnG p e below s _ _ _ (T0.setTop (mkF m 272 #[.val (.int va), .val (.int vb), .val (.int vc), .val (.int vd), .val (.int ve), .val (.int k1), .val (.int k2), .val (.int k3), .val (.int ds), .val (.int te), .val (.int pa), .val (.int pb), .val (.int qa), .val (.int qb), .val (.int qc), .val (.ref lk), .val (.ref sq), .val (.int y1), .val (.int y2), .unset, .unset, .unset, .unset, .unset] []))
        refine own_by (fun t kk_ => XS.iload X0.here hx rfl (hb hby at_272) rfl  kk_) ?_
        show OwnG p e below s _ _ _ (T0.setTop (mkF m 274 #[.val (.int va), .val (.int vb), .val (.int vc), .val (.int vd), .val (.int ve), .val (.int k1), .val (.int k2), .val (.int k3), .val (.int ds), .val (.int te), .val (.int pa), .val (.int pb), .val (.int qa), .val (.int qb), .val (.int qc), .val (.ref lk), .val (.ref sq), .val (.int y1), .val (.int y2), .unset, .unset, .unset, .unset, .unset] [(.int pb)]))
        by_cases hb274_4 : pb = (0 : Int32)
        · refine own_by (fun t kk_ => XS.ifNo X0.here hx rfl (hb hby at_274) rfl ((if0 _ _).trans (teq hb274_4).2) kk_) ?_
          show OwnG p e below s _ _ _ (T0.setTop (mkF m 277 #[.val (.int va), .val (.int vb), .val (.int vc), .val (.int vd), .val (.int ve), .val (.int k1), .val (.int k2), .val (.int k3), .val (.int ds), .val (.int te), .val (.int pa), .val (.int pb), .val (.int qa), .val (.int qb), .val (.int qc), .val (.ref lk), .val (.ref sq), .val (.int y1), .val (.int y2), .unset, .unset, .unset, .unset, .unset] []))
          refine own_by (fun t kk_ => XS.iconst X0.here hx rfl (hb hby at_277) kk_) ?_
          show OwnG p e below s _ _ _ (T0.setTop (mkF m 278 #[.val (.int va), .val (.int vb), .val (.int vc), .val (.int vd), .val (.int ve), .val (.int k1), .val (.int k2), .val (.int k3), .val (.int ds), .val (.int te), .val (.int pa), .val (.int pb), .val (.int qa), .val (.int qb), .val (.int qc), .val (.ref lk), .val (.ref sq), .val (.int y1), .val (.int y2), .unset, .unset, .unset, .unset, .unset] [(.int (1 : Int32))]))
          refine own_by (fun t kk_ => XS.goto X0.here hx rfl (pc0 := 278) (pc' := 282) rfl (hb hby at_278) (by decide) (by decide) kk_) ?_
          show OwnG p e below s _ _ _ (T0.setTop (mkF m 282 #[.val (.int va), .val (.int vb), .val (.int vc), .val (.int vd), .val (.int ve), .val (.int k1), .val (.int k2), .val (.int k3), .val (.int ds), .val (.int te), .val (.int pa), .val (.int pb), .val (.int qa), .val (.int qb), .val (.int qc), .val (.ref lk), .val (.ref sq), .val (.int y1), .val (.int y2), .unset, .unset, .unset, .unset, .unset] [(.int (1 : Int32))]))
          exact own_t282 va vb vc vd ve k1 k2 k3 ds te pa pb qa qb qc y1 y2 (1 : Int32) lk sq X0 hx hby hml hret hlk hown hnm hZ hw e0 N0 Z0 (by rw [he1]; simp [own_e2, hb258_1, hb263_2, hb269_3, hb274_4]) he2
        · refine own_by (fun t kk_ => XS.ifYes X0.here hx rfl (pc0 := 274) (pc' := 281) rfl (hb hby at_274) rfl ((if0 _ _).trans (feq hb274_4).2) (by decide) (by decide) kk_) ?_
          show OwnG p e below s _ _ _ (T0.setTop (mkF m 281 #[.val (.int va), .val (.int vb), .val (.int vc), .val (.int vd), .val (.int ve), .val (.int k1), .val (.int k2), .val (.int k3), .val (.int ds), .val (.int te), .val (.int pa), .val (.int pb), .val (.int qa), .val (.int qb), .val (.int qc), .val (.ref lk), .val (.ref sq), .val (.int y1), .val (.int y2), .unset, .unset, .unset, .unset, .unset] []))
          refine own_by (fun t kk_ => XS.iconst X0.here hx rfl (hb hby at_281) kk_) ?_
          show OwnG p e below s _ _ _ (T0.setTop (mkF m 282 #[.val (.int va), .val (.int vb), .val (.int vc), .val (.int vd), .val (.int ve), .val (.int k1), .val (.int k2), .val (.int k3), .val (.int ds), .val (.int te), .val (.int pa), .val (.int pb), .val (.int qa), .val (.int qb), .val (.int qc), .val (.ref lk), .val (.ref sq), .val (.int y1), .val (.int y2), .unset, .unset, .unset, .unset, .unset] [(.int (0 : Int32))]))
          exact own_t282 va vb vc vd ve k1 k2 k3 ds te pa pb qa qb qc y1 y2 (0 : Int32) lk sq X0 hx hby hml hret hlk hown hnm hZ hw e0 N0 Z0 (by rw [he1]; simp [own_e2, hb258_1, hb263_2, hb269_3, hb274_4]) he2
      · refine own_by (fun t kk_ => XS.icmpYes X0.here hx rfl (pc0 := 269) (pc' := 281) rfl (hb hby at_269) rfl (flt hb269_3).2.2.2 (by decide) (by decide) kk_) ?_
        show OwnG p e below s _ _ _ (T0.setTop (mkF m 281 #[.val (.int va), .val (.int vb), .val (.int vc), .val (.int vd), .val (.int ve), .val (.int k1), .val (.int k2), .val (.int k3), .val (.int ds), .val (.int te), .val (.int pa), .val (.int pb), .val (.int qa), .val (.int qb), .val (.int qc), .val (.ref lk), .val (.ref sq), .val (.int y1), .val (.int y2), .unset, .unset, .unset, .unset, .unset] []))
        refine own_by (fun t kk_ => XS.iconst X0.here hx rfl (hb hby at_281) kk_) ?_
        show OwnG p e below s _ _ _ (T0.setTop (mkF m 282 #[.val (.int va), .val (.int vb), .val (.int vc), .val (.int vd), .val (.int ve), .val (.int k1), .val (.int k2), .val (.int k3), .val (.int ds), .val (.int te), .val (.int pa), .val (.int pb), .val (.int qa), .val (.int qb), .val (.int qc), .val (.ref lk), .val (.ref sq), .val (.int y1), .val (.int y2), .unset, .unset, .unset, .unset, .unset] [(.int (0 : Int32))]))
        exact own_t282 va vb vc vd ve k1 k2 k3 ds te pa pb qa qb qc y1 y2 (0 : Int32) lk sq X0 hx hby hml hret hlk hown hnm hZ hw e0 N0 Z0 (by rw [he1]; simp [own_e2, hb258_1, hb263_2, hb269_3]) he2
  · refine own_by (fun t kk_ => XS.ifYes X0.here hx rfl (pc0 := 258) (pc' := 266) rfl (hb hby at_258) rfl ((if0 _ _).trans (flt hb258_1).2.2.2) (by decide) (by decide) kk_) ?_
    show OwnG p e below s _ _ _ (T0.setTop (mkF m 266 #[.val (.int va), .val (.int vb), .val (.int vc), .val (.int vd), .val (.int ve), .val (.int k1), .val (.int k2), .val (.int k3), .val (.int ds), .val (.int te), .val (.int pa), .val (.int pb), .val (.int qa), .val (.int qb), .val (.int qc), .val (.ref lk), .val (.ref sq), .val (.int y1), .val (.int y2), .unset, .unset, .unset, .unset, .unset] []))
    refine own_by (fun t kk_ => XS.iload X0.here hx rfl (hb hby at_266) rfl  kk_) ?_
    show OwnG p e below s _ _ _ (T0.setTop (mkF m 268 #[.val (.int va), .val (.int vb), .val (.int vc), .val (.int vd), .val (.int ve), .val (.int k1), .val (.int k2), .val (.int k3), .val (.int ds), .val (.int te), .val (.int pa), .val (.int pb), .val (.int qa), .val (.int qb), .val (.int qc), .val (.ref lk), .val (.ref sq), .val (.int y1), .val (.int y2), .unset, .unset, .unset, .unset, .unset] [(.int k1)]))
    refine own_by (fun t kk_ => XS.iconst X0.here hx rfl (hb hby at_268) kk_) ?_
    show OwnG p e below s _ _ _ (T0.setTop (mkF m 269 #[.val (.int va), .val (.int vb), .val (.int vc), .val (.int vd), .val (.int ve), .val (.int k1), .val (.int k2), .val (.int k3), .val (.int ds), .val (.int te), .val (.int pa), .val (.int pb), .val (.int qa), .val (.int qb), .val (.int qc), .val (.ref lk), .val (.ref sq), .val (.int y1), .val (.int y2), .unset, .unset, .unset, .unset, .unset] [(.int (1 : Int32)), (.int k1)]))
    by_cases hb269_5 : (1 : Int32) < k1
    · refine own_by (fun t kk_ => XS.icmpNo X0.here hx rfl (hb hby at_269) rfl (tlt hb269_5).2.2.2 kk_) ?_
      show OwnG p e below s _ _ _ (T0.setTop (mkF m 272 #[.val (.int va), .val (.int vb), .val (.int vc), .val (.int vd), .val (.int ve), .val (.int k1), .val (.int k2), .val (.int k3), .val (.int ds), .val (.int te), .val (.int pa), .val (.int pb), .val (.int qa), .val (.int qb), .val (.int qc), .val (.ref lk), .val (.ref sq), .val (.int y1), .val (.int y2), .unset, .unset, .unset, .unset, .unset] []))
      refine own_by (fun t kk_ => XS.iload X0.here hx rfl (hb hby at_272) rfl  kk_) ?_
      show OwnG p e below s _ _ _ (T0.setTop (mkF m 274 #[.val (.int va), .val (.int vb), .val (.int vc), .val (.int vd), .val (.int ve), .val (.int k1), .val (.int k2), .val (.int k3), .val (.int ds), .val (.int te), .val (.int pa), .val (.int pb), .val (.int qa), .val (.int qb), .val (.int qc), .val (.ref lk), .val (.ref sq), .val (.int y1), .val (.int y2), .unset, .unset, .unset, .unset, .unset] [(.int pb)]))
      by_cases hb274_6 : pb = (0 : Int32)
      · refine own_by (fun t kk_ => XS.ifNo X0.here hx rfl (hb hby at_274) rfl ((if0 _ _).trans (teq hb274_6).2) kk_) ?_
        show OwnG p e below s _ _ _ (T0.setTop (mkF m 277 #[.val (.int va), .val (.int vb), .val (.int vc), .val (.int vd), .val (.int ve), .val (.int k1), .val (.int k2), .val (.int k3), .val (.int ds), .val (.int te), .val (.int pa), .val (.int pb), .val (.int qa), .val (.int qb), .val (.int qc), .val (.ref lk), .val (.ref sq), .val (.int y1), .val (.int y2), .unset, .unset, .unset, .unset, .unset] []))
        refine own_by (fun t kk_ => XS.iconst X0.here hx rfl (hb hby at_277) kk_) ?_
        show OwnG p e below s _ _ _ (T0.setTop (mkF m 278 #[.val (.int va), .val (.int vb), .val (.int vc), .val (.int vd), .val (.int ve), .val (.int k1), .val (.int k2), .val (.int k3), .val (.int ds), .val (.int te), .val (.int pa), .val (.int pb), .val (.int qa), .val (.int qb), .val (.int qc), .val (.ref lk), .val (.ref sq), .val (.int y1), .val (.int y2), .unset, .unset, .unset, .unset, .unset] [(.int (1 : Int32))]))
        refine own_by (fun t kk_ => XS.goto X0.here hx rfl (pc0 := 278) (pc' := 282) rfl (hb hby at_278) (by decide) (by decide) kk_) ?_
        show OwnG p e below s _ _ _ (T0.setTop (mkF m 282 #[.val (.int va), .val (.int vb), .val (.int vc), .val (.int vd), .val (.int ve), .val (.int k1), .val (.int k2), .val (.int k3), .val (.int ds), .val (.int te), .val (.int pa), .val (.int pb), .val (.int qa), .val (.int qb), .val (.int qc), .val (.ref lk), .val (.ref sq), .val (.int y1), .val (.int y2), .unset, .unset, .unset, .unset, .unset] [(.int (1 : Int32))]))
        exact own_t282 va vb vc vd ve k1 k2 k3 ds te pa pb qa qb qc y1 y2 (1 : Int32) lk sq X0 hx hby hml hret hlk hown hnm hZ hw e0 N0 Z0 (by rw [he1]; simp [own_e2, hb258_1, hb269_5, hb274_6]) he2
      · refine own_by (fun t kk_ => XS.ifYes X0.here hx rfl (pc0 := 274) (pc' := 281) rfl (hb hby at_274) rfl ((if0 _ _).trans (feq hb274_6).2) (by decide) (by decide) kk_) ?_
        show OwnG p e below s _ _ _ (T0.setTop (mkF m 281 #[.val (.int va), .val (.int vb), .val (.int vc), .val (.int vd), .val (.int ve), .val (.int k1), .val (.int k2), .val (.int k3), .val (.int ds), .val (.int te), .val (.int pa), .val (.int pb), .val (.int qa), .val (.int qb), .val (.int qc), .val (.ref lk), .val (.ref sq), .val (.int y1), .val (.int y2), .unset, .unset, .unset, .unset, .unset] []))
        refine own_by (fun t kk_ => XS.iconst X0.here hx rfl (hb hby at_281) kk_) ?_
        show OwnG p e below s _ _ _ (T0.setTop (mkF m 282 #[.val (.int va), .val (.int vb), .val (.int vc), .val (.int vd), .val (.int ve), .val (.int k1), .val (.int k2), .val (.int k3), .val (.int ds), .val (.int te), .val (.int pa), .val (.int pb), .val (.int qa), .val (.int qb), .val (.int qc), .val (.ref lk), .val (.ref sq), .val (.int y1), .val (.int y2), .unset, .unset, .unset, .unset, .unset] [(.int (0 : Int32))]))
        exact own_t282 va vb vc vd ve k1 k2 k3 ds te pa pb qa qb qc y1 y2 (0 : Int32) lk sq X0 hx hby hml hret hlk hown hnm hZ hw e0 N0 Z0 (by rw [he1]; simp [own_e2, hb258_1, hb269_5, hb274_6]) he2
    · refine own_by (fun t kk_ => XS.icmpYes X0.here hx rfl (pc0 := 269) (pc' := 281) rfl (hb hby at_269) rfl (flt hb269_5).2.2.2 (by decide) (by decide) kk_) ?_
      show OwnG p e below s _ _ _ (T0.setTop (mkF m 281 #[.val (.int va), .val (.int vb), .val (.int vc), .val (.int vd), .val (.int ve), .val (.int k1), .val (.int k2), .val (.int k3), .val (.int ds), .val (.int te), .val (.int pa), .val (.int pb), .val (.int qa), .val (.int qb), .val (.int qc), .val (.ref lk), .val (.ref sq), .val (.int y1), .val (.int y2), .unset, .unset, .unset, .unset, .unset] []))
      refine own_by (fun t kk_ => XS.iconst X0.here hx rfl (hb hby at_281) kk_) ?_
      show OwnG p e below s _ _ _ (T0.setTop (mkF m 282 #[.val (.int va), .val (.int vb), .val (.int vc), .val (.int vd), .val (.int ve), .val (.int k1), .val (.int k2), .val (.int k3), .val (.int ds), .val (.int te), .val (.int pa), .val (.int pb), .val (.int qa), .val (.int qb), .val (.int qc), .val (.ref lk), .val (.ref sq), .val (.int y1), .val (.int y2), .unset, .unset, .unset, .unset, .unset] [(.int (0 : Int32))]))
      exact own_t282 va vb vc vd ve k1 k2 k3 ds te pa pb qa qb qc y1 y2 (0 : Int32) lk sq X0 hx hby hml hret hlk hown hnm hZ hw e0 N0 Z0 (by rw [he1]; simp [own_e2, hb258_1, hb269_5]) he2
set_option maxRecDepth 65536 in
set_option maxHeartbeats 40000000 in
theorem own_m00 {p : Program} {l : Launch} {e : Env} {s : State} {m : MethodId} {args : Array Value} {below : List Frame} {meth : Method} {c : Code} {T0 : State} {locs : List Loc} {Z : State} {a0 : Array Value} {h0 : Heap} {n0 : Nat} (va vb vc vd ve ds te pa pb qa qb qc : Int32) (X0 : Stand p l e room_1 s m args below meth c T0 locs (0) (0)) (hx : p.tables.exec = Jvm.exec) (hby : c.code = code) (hml : c.maxLocals = 24) (hret : meth.sig.returnType = some .boolean) (hlk : meth.locks = false) (hown : s.vm.findClass "com/example/score_on_crawl/scoreoncrawl/engine/BreadthFirstSequenceHasNextPinLaw" = some m.cls) (hnm : meth.name = "law") (hZ : Z.Warmed39 s.vm) (hw : ∀ d ∈ tables_1, d.before a0 Z = true) (e0 : T0.heap = h0) (N0 : Fr n0 locs) (Z0 : n0 ≤ h0.size) (SA : Sta Z h0 "java/util/BitSet" "$assertionsDisabled" "Z" (.int (1 : Int32))) (za : own_z pa) (zb : own_z pb) (zc : own_z qa) (zd : own_z qb) (ze : own_z qc) :
    OwnG p e below s (fun v h L => v = some (.int (1 : Int32)) ∧ Fr n0 L) room_1.cells room_1.slots (T0.setTop (mkF m 151 #[.val (.int va), .val (.int vb), .val (.int vc), .val (.int vd), .val (.int ve), .val (.int (0 : Int32)), .val (.int (0 : Int32)), .val (.int (0 : Int32)), .val (.int ds), .val (.int te), .val (.int pa), .val (.int pb), .val (.int qa), .val (.int qb), .val (.int qc), .unset, .unset, .unset, .unset, .unset, .unset, .unset, .unset, .unset] [])) := by
  show OwnG p e below s _ _ _ (T0.setTop (mkF m 151 #[.val (.int va), .val (.int vb), .val (.int vc), .val (.int vd), .val (.int ve), .val (.int (0 : Int32)), .val (.int (0 : Int32)), .val (.int (0 : Int32)), .val (.int ds), .val (.int te), .val (.int pa), .val (.int pb), .val (.int qa), .val (.int qb), .val (.int qc), .unset, .unset, .unset, .unset, .unset, .unset, .unset, .unset, .unset] []))
  refine own_by (fun t kk_ => XS.iconst X0.here hx rfl (hb hby at_151) kk_) ?_
  show OwnG p e below s _ _ _ (T0.setTop (mkF m 152 #[.val (.int va), .val (.int vb), .val (.int vc), .val (.int vd), .val (.int ve), .val (.int (0 : Int32)), .val (.int (0 : Int32)), .val (.int (0 : Int32)), .val (.int ds), .val (.int te), .val (.int pa), .val (.int pb), .val (.int qa), .val (.int qb), .val (.int qc), .unset, .unset, .unset, .unset, .unset, .unset, .unset, .unset, .unset] [(.int (0 : Int32))]))
  obtain ⟨T1, h1, k1, X1, e1, E1, A1, st1⟩ := newP X0 hx hZ (hw _ (List.mem_of_getElem? (i := 1) rfl)) e0 (g := (mkF m 152 #[.val (.int va), .val (.int vb), .val (.int vc), .val (.int vd), .val (.int ve), .val (.int (0 : Int32)), .val (.int (0 : Int32)), .val (.int (0 : Int32)), .val (.int ds), .val (.int te), .val (.int pa), .val (.int pb), .val (.int qa), .val (.int qb), .val (.int qc), .unset, .unset, .unset, .unset, .unset, .unset, .unset, .unset, .unset] [(.int (0 : Int32))])) rfl (hb hby at_152) rfl (by decide) (cap := 0) (by decide) (by decide) (by decide) (by decide)
  obtain ⟨lk, g1⟩ : ∃ z, z = h0.size := ⟨_, rfl⟩
  rw [← g1] at A1 st1
  have gg_lk : n0 ≤ lk := by rw [g1]; exact Z0
  have sz1 : n0 ≤ h1.size := Nat.le_trans Z0 E1.1
  refine own_by (fun t kk_ => st1 _ kk_) ?_
  have f2 := Sta.ext E1 SA
  have f3 : OwnA Z h1 lk .int 0 (fun _ => (defaultValue .int)) := OwnA.new A1 (n := 0) (by decide) rfl
  show OwnG p e below s _ _ _ (T1.setTop (mkF m 154 #[.val (.int va), .val (.int vb), .val (.int vc), .val (.int vd), .val (.int ve), .val (.int (0 : Int32)), .val (.int (0 : Int32)), .val (.int (0 : Int32)), .val (.int ds), .val (.int te), .val (.int pa), .val (.int pb), .val (.int qa), .val (.int qb), .val (.int qc), .unset, .unset, .unset, .unset, .unset, .unset, .unset, .unset, .unset] [(.ref lk)]))
  refine own_by (fun t kk_ => XS.astore X1.here hx rfl (hb hby at_154) rfl rfl (l' := #[.val (.int va), .val (.int vb), .val (.int vc), .val (.int vd), .val (.int ve), .val (.int (0 : Int32)), .val (.int (0 : Int32)), .val (.int (0 : Int32)), .val (.int ds), .val (.int te), .val (.int pa), .val (.int pb), .val (.int qa), .val (.int qb), .val (.int qc), .val (.ref lk), .unset, .unset, .unset, .unset, .unset, .unset, .unset, .unset]) rfl kk_) ?_
  show OwnG p e below s _ _ _ (T1.setTop (mkF m 156 #[.val (.int va), .val (.int vb), .val (.int vc), .val (.int vd), .val (.int ve), .val (.int (0 : Int32)), .val (.int (0 : Int32)), .val (.int (0 : Int32)), .val (.int ds), .val (.int te), .val (.int pa), .val (.int pb), .val (.int qa), .val (.int qb), .val (.int qc), .val (.ref lk), .unset, .unset, .unset, .unset, .unset, .unset, .unset, .unset] []))
  obtain ⟨T4, h4, X4, e4, E4, A4, D4, -, st4⟩ := newO X1 hx hZ hown (hw _ (List.mem_of_getElem? (i := 2) rfl)) (hw _ (List.mem_of_getElem? (i := 3) rfl)) (hw _ (List.mem_of_getElem? (i := 4) rfl)) e1 (g := (mkF m 156 #[.val (.int va), .val (.int vb), .val (.int vc), .val (.int vd), .val (.int ve), .val (.int (0 : Int32)), .val (.int (0 : Int32)), .val (.int (0 : Int32)), .val (.int ds), .val (.int te), .val (.int pa), .val (.int pb), .val (.int qa), .val (.int qb), .val (.int qc), .val (.ref lk), .unset, .unset, .unset, .unset, .unset, .unset, .unset, .unset] [])) rfl (hb hby at_156) (by decide) (by decide)
  obtain ⟨sq, g4⟩ : ∃ z, z = h1.size := ⟨_, rfl⟩
  rw [← g4] at A4 D4 st4
  have ne5 : lk ≠ sq := fun q => absurd f3.lt (by rw [q, g4]; exact Nat.lt_irrefl _)
  have gg_sq : n0 ≤ sq := by rw [g4]; exact sz1
  have sz4 : n0 ≤ h4.size := Nat.le_trans sz1 E4.1
  refine own_by (fun t kk_ => st4 _ kk_) ?_
  have f6 := Sta.ext E4 f2
  have f7 := OwnA.ext E4 f3
  have f8 : Fld Z h4 sq "com/example/score_on_crawl/scoreoncrawl/engine/BreadthFirstSequence" "fetched" "Lcom/example/score_on_crawl/scoreoncrawl/engine/FetchedPages;" .null := D4 (Or.inr (hw _ (List.mem_of_getElem? (i := 43) rfl))) (ty := (.object "com/example/score_on_crawl/scoreoncrawl/engine/FetchedPages")) (by decide)
  have f9 : Fld Z h4 sq "com/example/score_on_crawl/scoreoncrawl/engine/BreadthFirstSequence" "cursor" "I" (.int (0 : Int32)) := D4 (Or.inl (hw _ (List.mem_of_getElem? (i := 54) rfl))) (ty := .int) (by decide)
  have f10 : Fld Z h4 sq "com/example/score_on_crawl/scoreoncrawl/engine/BreadthFirstSequence" "pages" "I" (.int (0 : Int32)) := D4 (Or.inl (hw _ (List.mem_of_getElem? (i := 56) rfl))) (ty := .int) (by decide)
  show OwnG p e below s _ _ _ (T4.setTop (mkF m 159 #[.val (.int va), .val (.int vb), .val (.int vc), .val (.int vd), .val (.int ve), .val (.int (0 : Int32)), .val (.int (0 : Int32)), .val (.int (0 : Int32)), .val (.int ds), .val (.int te), .val (.int pa), .val (.int pb), .val (.int qa), .val (.int qb), .val (.int qc), .val (.ref lk), .unset, .unset, .unset, .unset, .unset, .unset, .unset, .unset] [(.ref sq)]))
  refine own_by (fun t kk_ => XS.dup X4.here hx rfl (hb hby at_159) rfl rfl kk_) ?_
  show OwnG p e below s _ _ _ (T4.setTop (mkF m 160 #[.val (.int va), .val (.int vb), .val (.int vc), .val (.int vd), .val (.int ve), .val (.int (0 : Int32)), .val (.int (0 : Int32)), .val (.int (0 : Int32)), .val (.int ds), .val (.int te), .val (.int pa), .val (.int pb), .val (.int qa), .val (.int qb), .val (.int qc), .val (.ref lk), .unset, .unset, .unset, .unset, .unset, .unset, .unset, .unset] [(.ref sq), (.ref sq)]))
  obtain ⟨_, _, ⟨T11, L11, k11, n11⟩, -, X11, ⟨Lc11, hQ11, l11, y11, z11⟩, st11⟩ := X4.specialBack hx (y := (⟨"com/example/score_on_crawl/scoreoncrawl/engine/BreadthFirstSequence", "<init>", "()V"⟩ : MethodName)) rfl hown (mvT hZ (hw _ (List.mem_of_getElem? (i := 5) rfl))) (mvT hZ (hw _ (List.mem_of_getElem? (i := 6) rfl))) (mvT hZ (hw _ (List.mem_of_getElem? (i := 7) rfl))) (by decide) (backOf (W := 1) (rm1 l Z a0 hw [] sq h4 n0 sz4 A4 f8 f10 f9 f6 gg_sq) hZ (hw _ (List.mem_of_getElem? (i := 7) rfl)) (hw _ (List.mem_of_getElem? (i := 4) rfl)) (by decide) (by decide)) (g := (mkF m 160 #[.val (.int va), .val (.int vb), .val (.int vc), .val (.int vd), .val (.int ve), .val (.int (0 : Int32)), .val (.int (0 : Int32)), .val (.int (0 : Int32)), .val (.int ds), .val (.int te), .val (.int pa), .val (.int pb), .val (.int qa), .val (.int qb), .val (.int qc), .val (.ref lk), .unset, .unset, .unset, .unset, .unset, .unset, .unset, .unset] [(.ref sq), (.ref sq)])) rfl (by rw [hml]; rfl) (Steps.refl _) (a := sq) (argsL := []) (rest := [(.ref sq)]) (lenOf pd_2 rfl) rfl (by show 2 * 0 + _ ≤ _; exact Nat.le_of_eq rfl) (hb hby at_160) (fun _ _ => ⟨rfl, e4, (by decide : 0 + 1 + 1 + 3 ≤ _), (by decide : 0 + 3 + 5 ≤ _)⟩)
  dsimp only [Pt.U, Pt.locs, Pt.cells, Pt.slots] at X11 l11 y11 z11 st11 hQ11
  subst l11 y11 z11
  refine own_by (fun t kk_ => st11.trans kk_) ?_
  obtain ⟨rfl, N11q, fp, bs, wa, S11, Nn⟩ := hQ11
  have N11 := Fr.app N0 N11q
  have sz11 : n0 ≤ T11.heap.size := Nat.le_trans Nn.1 (Nat.le_of_lt (Exa.lt S11.1))
  show OwnG p e below s _ _ _ (T11.setTop (mkF m 163 #[.val (.int va), .val (.int vb), .val (.int vc), .val (.int vd), .val (.int ve), .val (.int (0 : Int32)), .val (.int (0 : Int32)), .val (.int (0 : Int32)), .val (.int ds), .val (.int te), .val (.int pa), .val (.int pb), .val (.int qa), .val (.int qb), .val (.int qc), .val (.ref lk), .unset, .unset, .unset, .unset, .unset, .unset, .unset, .unset] [(.ref sq)]))
  refine own_by (fun t kk_ => XS.astore X11.here hx rfl (hb hby at_163) rfl rfl (l' := #[.val (.int va), .val (.int vb), .val (.int vc), .val (.int vd), .val (.int ve), .val (.int (0 : Int32)), .val (.int (0 : Int32)), .val (.int (0 : Int32)), .val (.int ds), .val (.int te), .val (.int pa), .val (.int pb), .val (.int qa), .val (.int qb), .val (.int qc), .val (.ref lk), .val (.ref sq), .unset, .unset, .unset, .unset, .unset, .unset, .unset]) rfl kk_) ?_
  show OwnG p e below s _ _ _ (T11.setTop (mkF m 165 #[.val (.int va), .val (.int vb), .val (.int vc), .val (.int vd), .val (.int ve), .val (.int (0 : Int32)), .val (.int (0 : Int32)), .val (.int (0 : Int32)), .val (.int ds), .val (.int te), .val (.int pa), .val (.int pb), .val (.int qa), .val (.int qb), .val (.int qc), .val (.ref lk), .val (.ref sq), .unset, .unset, .unset, .unset, .unset, .unset, .unset] []))
  refine own_by (fun t kk_ => XS.iload X11.here hx rfl (hb hby at_165) rfl  kk_) ?_
  show OwnG p e below s _ _ _ (T11.setTop (mkF m 167 #[.val (.int va), .val (.int vb), .val (.int vc), .val (.int vd), .val (.int ve), .val (.int (0 : Int32)), .val (.int (0 : Int32)), .val (.int (0 : Int32)), .val (.int ds), .val (.int te), .val (.int pa), .val (.int pb), .val (.int qa), .val (.int qb), .val (.int qc), .val (.ref lk), .val (.ref sq), .unset, .unset, .unset, .unset, .unset, .unset, .unset] [(.int (0 : Int32))]))
  refine own_by (fun t kk_ => XS.ifYes X11.here hx rfl (pc0 := 167) (pc' := 178) rfl (hb hby at_167) rfl ((if0 _ _).trans (flt (by decide)).2.2.2) (by decide) (by decide) kk_) ?_
  show OwnG p e below s _ _ _ (T11.setTop (mkF m 178 #[.val (.int va), .val (.int vb), .val (.int vc), .val (.int vd), .val (.int ve), .val (.int (0 : Int32)), .val (.int (0 : Int32)), .val (.int (0 : Int32)), .val (.int ds), .val (.int te), .val (.int pa), .val (.int pb), .val (.int qa), .val (.int qb), .val (.int qc), .val (.ref lk), .val (.ref sq), .unset, .unset, .unset, .unset, .unset, .unset, .unset] []))
  refine own_by (fun t kk_ => XS.iload X11.here hx rfl (hb hby at_178) rfl  kk_) ?_
  show OwnG p e below s _ _ _ (T11.setTop (mkF m 180 #[.val (.int va), .val (.int vb), .val (.int vc), .val (.int vd), .val (.int ve), .val (.int (0 : Int32)), .val (.int (0 : Int32)), .val (.int (0 : Int32)), .val (.int ds), .val (.int te), .val (.int pa), .val (.int pb), .val (.int qa), .val (.int qb), .val (.int qc), .val (.ref lk), .val (.ref sq), .unset, .unset, .unset, .unset, .unset, .unset, .unset] [(.int (0 : Int32))]))
  refine own_by (fun t kk_ => XS.iconst X11.here hx rfl (hb hby at_180) kk_) ?_
  show OwnG p e below s _ _ _ (T11.setTop (mkF m 181 #[.val (.int va), .val (.int vb), .val (.int vc), .val (.int vd), .val (.int ve), .val (.int (0 : Int32)), .val (.int (0 : Int32)), .val (.int (0 : Int32)), .val (.int ds), .val (.int te), .val (.int pa), .val (.int pb), .val (.int qa), .val (.int qb), .val (.int qc), .val (.ref lk), .val (.ref sq), .unset, .unset, .unset, .unset, .unset, .unset, .unset] [(.int (1 : Int32)), (.int (0 : Int32))]))
  refine own_by (fun t kk_ => XS.icmpYes X11.here hx rfl (pc0 := 181) (pc' := 200) rfl (hb hby at_181) rfl (flt (by decide)).2.2.2 (by decide) (by decide) kk_) ?_
  show OwnG p e below s _ _ _ (T11.setTop (mkF m 200 #[.val (.int va), .val (.int vb), .val (.int vc), .val (.int vd), .val (.int ve), .val (.int (0 : Int32)), .val (.int (0 : Int32)), .val (.int (0 : Int32)), .val (.int ds), .val (.int te), .val (.int pa), .val (.int pb), .val (.int qa), .val (.int qb), .val (.int qc), .val (.ref lk), .val (.ref sq), .unset, .unset, .unset, .unset, .unset, .unset, .unset] []))
  refine own_by (fun t kk_ => XS.aload X11.here hx rfl (hb hby at_200) rfl rfl kk_) ?_
  show OwnG p e below s _ _ _ (T11.setTop (mkF m 202 #[.val (.int va), .val (.int vb), .val (.int vc), .val (.int vd), .val (.int ve), .val (.int (0 : Int32)), .val (.int (0 : Int32)), .val (.int (0 : Int32)), .val (.int ds), .val (.int te), .val (.int pa), .val (.int pb), .val (.int qa), .val (.int qb), .val (.int qc), .val (.ref lk), .val (.ref sq), .unset, .unset, .unset, .unset, .unset, .unset, .unset] [(.ref sq)]))
  refine own_by (fun t kk_ => XS.iload X11.here hx rfl (hb hby at_202) rfl  kk_) ?_
  show OwnG p e below s _ _ _ (T11.setTop (mkF m 204 #[.val (.int va), .val (.int vb), .val (.int vc), .val (.int vd), .val (.int ve), .val (.int (0 : Int32)), .val (.int (0 : Int32)), .val (.int (0 : Int32)), .val (.int ds), .val (.int te), .val (.int pa), .val (.int pb), .val (.int qa), .val (.int qb), .val (.int qc), .val (.ref lk), .val (.ref sq), .unset, .unset, .unset, .unset, .unset, .unset, .unset] [(.int pa), (.ref sq)]))
  refine own_by (fun t kk_ => XS.iload X11.here hx rfl (hb hby at_204) rfl  kk_) ?_
  show OwnG p e below s _ _ _ (T11.setTop (mkF m 206 #[.val (.int va), .val (.int vb), .val (.int vc), .val (.int vd), .val (.int ve), .val (.int (0 : Int32)), .val (.int (0 : Int32)), .val (.int (0 : Int32)), .val (.int ds), .val (.int te), .val (.int pa), .val (.int pb), .val (.int qa), .val (.int qb), .val (.int qc), .val (.ref lk), .val (.ref sq), .unset, .unset, .unset, .unset, .unset, .unset, .unset] [(.int pb), (.int pa), (.ref sq)]))
  refine own_by (fun t kk_ => XS.iload X11.here hx rfl (hb hby at_206) rfl  kk_) ?_
  show OwnG p e below s _ _ _ (T11.setTop (mkF m 208 #[.val (.int va), .val (.int vb), .val (.int vc), .val (.int vd), .val (.int ve), .val (.int (0 : Int32)), .val (.int (0 : Int32)), .val (.int (0 : Int32)), .val (.int ds), .val (.int te), .val (.int pa), .val (.int pb), .val (.int qa), .val (.int qb), .val (.int qc), .val (.ref lk), .val (.ref sq), .unset, .unset, .unset, .unset, .unset, .unset, .unset] [(.int ds), (.int pb), (.int pa), (.ref sq)]))
  refine own_by (fun t kk_ => XS.aload X11.here hx rfl (hb hby at_208) rfl rfl kk_) ?_
  show OwnG p e below s _ _ _ (T11.setTop (mkF m 210 #[.val (.int va), .val (.int vb), .val (.int vc), .val (.int vd), .val (.int ve), .val (.int (0 : Int32)), .val (.int (0 : Int32)), .val (.int (0 : Int32)), .val (.int ds), .val (.int te), .val (.int pa), .val (.int pb), .val (.int qa), .val (.int qb), .val (.int qc), .val (.ref lk), .val (.ref sq), .unset, .unset, .unset, .unset, .unset, .unset, .unset] [(.ref lk), (.int ds), (.int pb), (.int pa), (.ref sq)]))
  obtain ⟨_, _, ⟨T12, L12, k12, n12⟩, -, X12, ⟨Lc12, hQ12, l12, y12, z12⟩, st12⟩ := Jvm.LawKit.callS X11 hx (y := (⟨"com/example/score_on_crawl/scoreoncrawl/engine/BreadthFirstSequenceHasNextPinLaw", "fetchTwo", "(Lcom/example/score_on_crawl/scoreoncrawl/engine/BreadthFirstSequence;ZZZ[I)V"⟩ : MethodName)) hown (mvT hZ (hw _ (List.mem_of_getElem? (i := 44) rfl))) (mvT hZ (hw _ (List.mem_of_getElem? (i := 45) rfl))) (mvT hZ (hw _ (List.mem_of_getElem? (i := 46) rfl))) (mvT hZ (hw _ (List.mem_of_getElem? (i := 47) rfl))) (by decide) (backOf (W := 0) (rm7 l Z a0 hw [] sq fp bs wa lk (0 : Int32) (0 : Int32) (0 : Int32) pa pb ds (0 : Int64) T11.heap n0 sz11 ⟨S11.1, S11.2.1, S11.2.2.1, S11.2.2.2.1, ⟨S11.2.2.2.2.1, S11.2.2.2.2.2.1, ⟨S11.2.2.2.2.2.2.1, S11.2.2.2.2.2.2.2.1, S11.2.2.2.2.2.2.2.2.1, S11.2.2.2.2.2.2.2.2.2.1, S11.2.2.2.2.2.2.2.2.2.2⟩⟩⟩ Nn (Or.inl rfl) (Or.inl rfl) rfl) hZ (hw _ (List.mem_of_getElem? (i := 47) rfl)) (hw _ (List.mem_of_getElem? (i := 46) rfl)) (by decide) (by decide)) (g := (mkF m 210 #[.val (.int va), .val (.int vb), .val (.int vc), .val (.int vd), .val (.int ve), .val (.int (0 : Int32)), .val (.int (0 : Int32)), .val (.int (0 : Int32)), .val (.int ds), .val (.int te), .val (.int pa), .val (.int pb), .val (.int qa), .val (.int qb), .val (.int qc), .val (.ref lk), .val (.ref sq), .unset, .unset, .unset, .unset, .unset, .unset, .unset] [(.ref lk), (.int ds), (.int pb), (.int pa), (.ref sq)])) rfl (by rw [hml]; rfl) (argsL := [(.ref sq), (.int pa), (.int pb), (.int ds), (.ref lk)]) (rest := []) (lenOf pd_6 rfl) rfl (by show 2 * 0 + _ ≤ _; exact Nat.le_of_eq rfl) (hb hby at_210) (fun _ _ => ⟨rfl, (rfl : T11.heap = T11.heap), (by decide : 0 + 1 + 1 + 3 + 0 ≤ _), (by decide : 0 + 3 + 5 + 0 ≤ _)⟩)
  dsimp only [Pt.U, Pt.locs, Pt.cells, Pt.slots] at X12 l12 y12 z12 st12 hQ12
  subst l12 y12 z12
  refine own_by (fun t kk_ => st12 _ kk_) ?_
  obtain ⟨rfl, N12q, u12, hm12, hu12, S12⟩ := hQ12
  have N12 := Fr.app N11 N12q
  have sz12 : n0 ≤ T12.heap.size := Nat.le_trans Nn.1 (Nat.le_of_lt (Exa.lt S12.1))
  show OwnG p e below s _ _ _ (T12.setTop (mkF m 213 #[.val (.int va), .val (.int vb), .val (.int vc), .val (.int vd), .val (.int ve), .val (.int (0 : Int32)), .val (.int (0 : Int32)), .val (.int (0 : Int32)), .val (.int ds), .val (.int te), .val (.int pa), .val (.int pb), .val (.int qa), .val (.int qb), .val (.int qc), .val (.ref lk), .val (.ref sq), .unset, .unset, .unset, .unset, .unset, .unset, .unset] []))
  refine own_by (fun t kk_ => XS.aload X12.here hx rfl (hb hby at_213) rfl rfl kk_) ?_
  show OwnG p e below s _ _ _ (T12.setTop (mkF m 215 #[.val (.int va), .val (.int vb), .val (.int vc), .val (.int vd), .val (.int ve), .val (.int (0 : Int32)), .val (.int (0 : Int32)), .val (.int (0 : Int32)), .val (.int ds), .val (.int te), .val (.int pa), .val (.int pb), .val (.int qa), .val (.int qb), .val (.int qc), .val (.ref lk), .val (.ref sq), .unset, .unset, .unset, .unset, .unset, .unset, .unset] [(.ref sq)]))
  obtain ⟨cq13, kq13, q13a, q13b, q13c⟩ := isOf hZ (rfl : T12.heap = T12.heap) S12.1
  obtain ⟨_, _, ⟨T13, L13, k13, n13⟩, -, X13, ⟨Lc13, hQ13, l13, y13, z13⟩, st13⟩ := X12.virtualBack hx (y := (⟨"com/example/score_on_crawl/scoreoncrawl/engine/BreadthFirstSequence", "hasNext", "()Z"⟩ : MethodName)) (z := (⟨"com/example/score_on_crawl/scoreoncrawl/engine/BreadthFirstSequence", "hasNext", "()Z"⟩ : MethodName)) hown (mvT hZ (hw _ (List.mem_of_getElem? (i := 48) rfl))) (mvT hZ (hw _ (List.mem_of_getElem? (i := 49) rfl))) (notFace_of_selects (args := #[]) (mvT hZ (hw _ (List.mem_of_getElem? (i := 51) rfl)))) (mvT hZ (hw _ (List.mem_of_getElem? (i := 51) rfl))) (mvT hZ (hw _ (List.mem_of_getElem? (i := 50) rfl))) (by decide) (backOf (W := 0) (rm8 l Z a0 hw [] sq fp bs wa (0 : Int32) (own_c (own_set (0 : Int64) pa pb 0)) u12 (own_set (0 : Int64) pa pb 0) T12.heap n0 sz12 ⟨S12.1, S12.2.1, S12.2.2.1, S12.2.2.2.1, ⟨S12.2.2.2.2.1, S12.2.2.2.2.2.1, ⟨S12.2.2.2.2.2.2.1, S12.2.2.2.2.2.2.2.1, S12.2.2.2.2.2.2.2.2.1, S12.2.2.2.2.2.2.2.2.2.1, S12.2.2.2.2.2.2.2.2.2.2⟩⟩⟩) hZ (hw _ (List.mem_of_getElem? (i := 52) rfl)) (hw _ (List.mem_of_getElem? (i := 4) rfl)) (by decide) (by decide)) q13a q13c (g := (mkF m 215 #[.val (.int va), .val (.int vb), .val (.int vc), .val (.int vd), .val (.int ve), .val (.int (0 : Int32)), .val (.int (0 : Int32)), .val (.int (0 : Int32)), .val (.int ds), .val (.int te), .val (.int pa), .val (.int pb), .val (.int qa), .val (.int qb), .val (.int qc), .val (.ref lk), .val (.ref sq), .unset, .unset, .unset, .unset, .unset, .unset, .unset] [(.ref sq)])) rfl (by rw [hml]; rfl) (Steps.refl _) (argsL := []) (rest := []) (lenOf pd_7 rfl) rfl (by show 2 * 0 + _ ≤ _; exact Nat.le_of_eq rfl) (hb hby at_215) (fun _ _ => ⟨rfl, (rfl : T12.heap = T12.heap), (by decide : 0 + 1 + 1 + 3 + 0 ≤ _), (by decide : 0 + 3 + 5 + 0 ≤ _)⟩)
  dsimp only [Pt.U, Pt.locs, Pt.cells, Pt.slots] at X13 l13 y13 z13 st13 hQ13
  subst l13 y13 z13
  refine own_by (fun t kk_ => st13.trans kk_) ?_
  obtain ⟨rfl, N13q, hh13⟩ := hQ13
  have N13 := Fr.app N12 N13q
  have f14 := S12.1
  rw [← hh13] at f14
  have f15 := S12.2.1
  rw [← hh13] at f15
  have f16 := S12.2.2.1
  rw [← hh13] at f16
  have f17 := S12.2.2.2.1
  rw [← hh13] at f17
  have f18 := S12.2.2.2.2.1
  rw [← hh13] at f18
  have f19 := S12.2.2.2.2.2.1
  rw [← hh13] at f19
  have f20 := S12.2.2.2.2.2.2.1
  rw [← hh13] at f20
  have f21 := S12.2.2.2.2.2.2.2.1
  rw [← hh13] at f21
  have f22 := S12.2.2.2.2.2.2.2.2.1
  rw [← hh13] at f22
  have f23 := S12.2.2.2.2.2.2.2.2.2.1
  rw [← hh13] at f23
  have f24 := S12.2.2.2.2.2.2.2.2.2.2
  rw [← hh13] at f24
  have sz13 : n0 ≤ T13.heap.size := by rw [hh13]; exact sz12
  show OwnG p e below s _ _ _ (T13.setTop (mkF m 218 #[.val (.int va), .val (.int vb), .val (.int vc), .val (.int vd), .val (.int ve), .val (.int (0 : Int32)), .val (.int (0 : Int32)), .val (.int (0 : Int32)), .val (.int ds), .val (.int te), .val (.int pa), .val (.int pb), .val (.int qa), .val (.int qb), .val (.int qc), .val (.ref lk), .val (.ref sq), .unset, .unset, .unset, .unset, .unset, .unset, .unset] [(.int (own_lt (own_c (own_set (0 : Int64) pa pb 0)) (0 : Int32)))]))
  refine own_by (fun t kk_ => XS.istore X13.here hx rfl (hb hby at_218) rfl (l' := #[.val (.int va), .val (.int vb), .val (.int vc), .val (.int vd), .val (.int ve), .val (.int (0 : Int32)), .val (.int (0 : Int32)), .val (.int (0 : Int32)), .val (.int ds), .val (.int te), .val (.int pa), .val (.int pb), .val (.int qa), .val (.int qb), .val (.int qc), .val (.ref lk), .val (.ref sq), .val (.int (own_lt (own_c (own_set (0 : Int64) pa pb 0)) (0 : Int32))), .unset, .unset, .unset, .unset, .unset, .unset]) rfl kk_) ?_
  show OwnG p e below s _ _ _ (T13.setTop (mkF m 220 #[.val (.int va), .val (.int vb), .val (.int vc), .val (.int vd), .val (.int ve), .val (.int (0 : Int32)), .val (.int (0 : Int32)), .val (.int (0 : Int32)), .val (.int ds), .val (.int te), .val (.int pa), .val (.int pb), .val (.int qa), .val (.int qb), .val (.int qc), .val (.ref lk), .val (.ref sq), .val (.int (own_lt (own_c (own_set (0 : Int64) pa pb 0)) (0 : Int32))), .unset, .unset, .unset, .unset, .unset, .unset] []))
  refine own_by (fun t kk_ => XS.iload X13.here hx rfl (hb hby at_220) rfl  kk_) ?_
  show OwnG p e below s _ _ _ (T13.setTop (mkF m 222 #[.val (.int va), .val (.int vb), .val (.int vc), .val (.int vd), .val (.int ve), .val (.int (0 : Int32)), .val (.int (0 : Int32)), .val (.int (0 : Int32)), .val (.int ds), .val (.int te), .val (.int pa), .val (.int pb), .val (.int qa), .val (.int qb), .val (.int qc), .val (.ref lk), .val (.ref sq), .val (.int (own_lt (own_c (own_set (0 : Int64) pa pb 0)) (0 : Int32))), .unset, .unset, .unset, .unset, .unset, .unset] [(.int (0 : Int32))]))
  refine own_by (fun t kk_ => XS.ifYes X13.here hx rfl (pc0 := 222) (pc' := 234) rfl (hb hby at_222) rfl ((if0 _ _).trans (flt (by decide)).2.2.2) (by decide) (by decide) kk_) ?_
  show OwnG p e below s _ _ _ (T13.setTop (mkF m 234 #[.val (.int va), .val (.int vb), .val (.int vc), .val (.int vd), .val (.int ve), .val (.int (0 : Int32)), .val (.int (0 : Int32)), .val (.int (0 : Int32)), .val (.int ds), .val (.int te), .val (.int pa), .val (.int pb), .val (.int qa), .val (.int qb), .val (.int qc), .val (.ref lk), .val (.ref sq), .val (.int (own_lt (own_c (own_set (0 : Int64) pa pb 0)) (0 : Int32))), .unset, .unset, .unset, .unset, .unset, .unset] []))
  refine own_by (fun t kk_ => XS.aload X13.here hx rfl (hb hby at_234) rfl rfl kk_) ?_
  show OwnG p e below s _ _ _ (T13.setTop (mkF m 236 #[.val (.int va), .val (.int vb), .val (.int vc), .val (.int vd), .val (.int ve), .val (.int (0 : Int32)), .val (.int (0 : Int32)), .val (.int (0 : Int32)), .val (.int ds), .val (.int te), .val (.int pa), .val (.int pb), .val (.int qa), .val (.int qb), .val (.int qc), .val (.ref lk), .val (.ref sq), .val (.int (own_lt (own_c (own_set (0 : Int64) pa pb 0)) (0 : Int32))), .unset, .unset, .unset, .unset, .unset, .unset] [(.ref sq)]))
  refine own_by (fun t kk_ => XS.iload X13.here hx rfl (hb hby at_236) rfl  kk_) ?_
  show OwnG p e below s _ _ _ (T13.setTop (mkF m 238 #[.val (.int va), .val (.int vb), .val (.int vc), .val (.int vd), .val (.int ve), .val (.int (0 : Int32)), .val (.int (0 : Int32)), .val (.int (0 : Int32)), .val (.int ds), .val (.int te), .val (.int pa), .val (.int pb), .val (.int qa), .val (.int qb), .val (.int qc), .val (.ref lk), .val (.ref sq), .val (.int (own_lt (own_c (own_set (0 : Int64) pa pb 0)) (0 : Int32))), .unset, .unset, .unset, .unset, .unset, .unset] [(.int qa), (.ref sq)]))
  refine own_by (fun t kk_ => XS.iload X13.here hx rfl (hb hby at_238) rfl  kk_) ?_
  show OwnG p e below s _ _ _ (T13.setTop (mkF m 240 #[.val (.int va), .val (.int vb), .val (.int vc), .val (.int vd), .val (.int ve), .val (.int (0 : Int32)), .val (.int (0 : Int32)), .val (.int (0 : Int32)), .val (.int ds), .val (.int te), .val (.int pa), .val (.int pb), .val (.int qa), .val (.int qb), .val (.int qc), .val (.ref lk), .val (.ref sq), .val (.int (own_lt (own_c (own_set (0 : Int64) pa pb 0)) (0 : Int32))), .unset, .unset, .unset, .unset, .unset, .unset] [(.int qb), (.int qa), (.ref sq)]))
  refine own_by (fun t kk_ => XS.iload X13.here hx rfl (hb hby at_240) rfl  kk_) ?_
  show OwnG p e below s _ _ _ (T13.setTop (mkF m 242 #[.val (.int va), .val (.int vb), .val (.int vc), .val (.int vd), .val (.int ve), .val (.int (0 : Int32)), .val (.int (0 : Int32)), .val (.int (0 : Int32)), .val (.int ds), .val (.int te), .val (.int pa), .val (.int pb), .val (.int qa), .val (.int qb), .val (.int qc), .val (.ref lk), .val (.ref sq), .val (.int (own_lt (own_c (own_set (0 : Int64) pa pb 0)) (0 : Int32))), .unset, .unset, .unset, .unset, .unset, .unset] [(.int qc), (.int qb), (.int qa), (.ref sq)]))
  refine own_by (fun t kk_ => XS.iload X13.here hx rfl (hb hby at_242) rfl  kk_) ?_
  show OwnG p e below s _ _ _ (T13.setTop (mkF m 244 #[.val (.int va), .val (.int vb), .val (.int vc), .val (.int vd), .val (.int ve), .val (.int (0 : Int32)), .val (.int (0 : Int32)), .val (.int (0 : Int32)), .val (.int ds), .val (.int te), .val (.int pa), .val (.int pb), .val (.int qa), .val (.int qb), .val (.int qc), .val (.ref lk), .val (.ref sq), .val (.int (own_lt (own_c (own_set (0 : Int64) pa pb 0)) (0 : Int32))), .unset, .unset, .unset, .unset, .unset, .unset] [(.int ds), (.int qc), (.int qb), (.int qa), (.ref sq)]))
  refine own_by (fun t kk_ => XS.aload X13.here hx rfl (hb hby at_244) rfl rfl kk_) ?_
  show OwnG p e below s _ _ _ (T13.setTop (mkF m 246 #[.val (.int va), .val (.int vb), .val (.int vc), .val (.int vd), .val (.int ve), .val (.int (0 : Int32)), .val (.int (0 : Int32)), .val (.int (0 : Int32)), .val (.int ds), .val (.int te), .val (.int pa), .val (.int pb), .val (.int qa), .val (.int qb), .val (.int qc), .val (.ref lk), .val (.ref sq), .val (.int (own_lt (own_c (own_set (0 : Int64) pa pb 0)) (0 : Int32))), .unset, .unset, .unset, .unset, .unset, .unset] [(.ref lk), (.int ds), (.int qc), (.int qb), (.int qa), (.ref sq)]))
  obtain ⟨_, _, ⟨T25, L25, k25, n25⟩, -, X25, ⟨Lc25, hQ25, l25, y25, z25⟩, st25⟩ := Jvm.LawKit.callS X13 hx (y := (⟨"com/example/score_on_crawl/scoreoncrawl/engine/BreadthFirstSequenceHasNextPinLaw", "fetchThree", "(Lcom/example/score_on_crawl/scoreoncrawl/engine/BreadthFirstSequence;ZZZZ[I)V"⟩ : MethodName)) hown (mvT hZ (hw _ (List.mem_of_getElem? (i := 62) rfl))) (mvT hZ (hw _ (List.mem_of_getElem? (i := 63) rfl))) (mvT hZ (hw _ (List.mem_of_getElem? (i := 46) rfl))) (mvT hZ (hw _ (List.mem_of_getElem? (i := 64) rfl))) (by decide) (backOf (W := 0) (rm10 l Z a0 hw [] sq fp bs wa lk (0 : Int32) (own_c (own_set (0 : Int64) pa pb 0)) u12 qa qb qc ds (own_set (0 : Int64) pa pb 0) T13.heap n0 sz13 ⟨f14, f15, f16, f17, ⟨f18, f19, ⟨f20, f21, f22, f23, f24⟩⟩⟩ Nn hu12 hm12 rfl) hZ (hw _ (List.mem_of_getElem? (i := 64) rfl)) (hw _ (List.mem_of_getElem? (i := 46) rfl)) (by decide) (by decide)) (g := (mkF m 246 #[.val (.int va), .val (.int vb), .val (.int vc), .val (.int vd), .val (.int ve), .val (.int (0 : Int32)), .val (.int (0 : Int32)), .val (.int (0 : Int32)), .val (.int ds), .val (.int te), .val (.int pa), .val (.int pb), .val (.int qa), .val (.int qb), .val (.int qc), .val (.ref lk), .val (.ref sq), .val (.int (own_lt (own_c (own_set (0 : Int64) pa pb 0)) (0 : Int32))), .unset, .unset, .unset, .unset, .unset, .unset] [(.ref lk), (.int ds), (.int qc), (.int qb), (.int qa), (.ref sq)])) rfl (by rw [hml]; rfl) (argsL := [(.ref sq), (.int qa), (.int qb), (.int qc), (.int ds), (.ref lk)]) (rest := []) (lenOf pd_8 rfl) rfl (by show 2 * 0 + _ ≤ _; exact Nat.le_of_eq rfl) (hb hby at_246) (fun _ _ => ⟨rfl, (rfl : T13.heap = T13.heap), (by decide : 0 + 1 + 1 + 3 + 0 ≤ _), (by decide : 0 + 3 + 5 + 0 ≤ _)⟩)
  dsimp only [Pt.U, Pt.locs, Pt.cells, Pt.slots] at X25 l25 y25 z25 st25 hQ25
  subst l25 y25 z25
  refine own_by (fun t kk_ => st25 _ kk_) ?_
  obtain ⟨rfl, N25q, u25, hm25, hu25, S25⟩ := hQ25
  have N25 := Fr.app N13 N25q
  have sz25 : n0 ≤ T25.heap.size := Nat.le_trans Nn.1 (Nat.le_of_lt (Exa.lt S25.1))
  show OwnG p e below s _ _ _ (T25.setTop (mkF m 249 #[.val (.int va), .val (.int vb), .val (.int vc), .val (.int vd), .val (.int ve), .val (.int (0 : Int32)), .val (.int (0 : Int32)), .val (.int (0 : Int32)), .val (.int ds), .val (.int te), .val (.int pa), .val (.int pb), .val (.int qa), .val (.int qb), .val (.int qc), .val (.ref lk), .val (.ref sq), .val (.int (own_lt (own_c (own_set (0 : Int64) pa pb 0)) (0 : Int32))), .unset, .unset, .unset, .unset, .unset, .unset] []))
  refine own_by (fun t kk_ => XS.aload X25.here hx rfl (hb hby at_249) rfl rfl kk_) ?_
  show OwnG p e below s _ _ _ (T25.setTop (mkF m 251 #[.val (.int va), .val (.int vb), .val (.int vc), .val (.int vd), .val (.int ve), .val (.int (0 : Int32)), .val (.int (0 : Int32)), .val (.int (0 : Int32)), .val (.int ds), .val (.int te), .val (.int pa), .val (.int pb), .val (.int qa), .val (.int qb), .val (.int qc), .val (.ref lk), .val (.ref sq), .val (.int (own_lt (own_c (own_set (0 : Int64) pa pb 0)) (0 : Int32))), .unset, .unset, .unset, .unset, .unset, .unset] [(.ref sq)]))
  obtain ⟨cq26, kq26, q26a, q26b, q26c⟩ := isOf hZ (rfl : T25.heap = T25.heap) S25.1
  obtain ⟨_, _, ⟨T26, L26, k26, n26⟩, -, X26, ⟨Lc26, hQ26, l26, y26, z26⟩, st26⟩ := X25.virtualBack hx (y := (⟨"com/example/score_on_crawl/scoreoncrawl/engine/BreadthFirstSequence", "hasNext", "()Z"⟩ : MethodName)) (z := (⟨"com/example/score_on_crawl/scoreoncrawl/engine/BreadthFirstSequence", "hasNext", "()Z"⟩ : MethodName)) hown (mvT hZ (hw _ (List.mem_of_getElem? (i := 48) rfl))) (mvT hZ (hw _ (List.mem_of_getElem? (i := 49) rfl))) (notFace_of_selects (args := #[]) (mvT hZ (hw _ (List.mem_of_getElem? (i := 51) rfl)))) (mvT hZ (hw _ (List.mem_of_getElem? (i := 51) rfl))) (mvT hZ (hw _ (List.mem_of_getElem? (i := 50) rfl))) (by decide) (backOf (W := 0) (rm8 l Z a0 hw [] sq fp bs wa (0 : Int32) (own_c (own_set (own_set (0 : Int64) pa pb 0) qa qb qc)) u25 (own_set (own_set (0 : Int64) pa pb 0) qa qb qc) T25.heap n0 sz25 ⟨S25.1, S25.2.1, S25.2.2.1, S25.2.2.2.1, ⟨S25.2.2.2.2.1, S25.2.2.2.2.2.1, ⟨S25.2.2.2.2.2.2.1, S25.2.2.2.2.2.2.2.1, S25.2.2.2.2.2.2.2.2.1, S25.2.2.2.2.2.2.2.2.2.1, S25.2.2.2.2.2.2.2.2.2.2⟩⟩⟩) hZ (hw _ (List.mem_of_getElem? (i := 52) rfl)) (hw _ (List.mem_of_getElem? (i := 4) rfl)) (by decide) (by decide)) q26a q26c (g := (mkF m 251 #[.val (.int va), .val (.int vb), .val (.int vc), .val (.int vd), .val (.int ve), .val (.int (0 : Int32)), .val (.int (0 : Int32)), .val (.int (0 : Int32)), .val (.int ds), .val (.int te), .val (.int pa), .val (.int pb), .val (.int qa), .val (.int qb), .val (.int qc), .val (.ref lk), .val (.ref sq), .val (.int (own_lt (own_c (own_set (0 : Int64) pa pb 0)) (0 : Int32))), .unset, .unset, .unset, .unset, .unset, .unset] [(.ref sq)])) rfl (by rw [hml]; rfl) (Steps.refl _) (argsL := []) (rest := []) (lenOf pd_7 rfl) rfl (by show 2 * 0 + _ ≤ _; exact Nat.le_of_eq rfl) (hb hby at_251) (fun _ _ => ⟨rfl, (rfl : T25.heap = T25.heap), (by decide : 0 + 1 + 1 + 3 + 0 ≤ _), (by decide : 0 + 3 + 5 + 0 ≤ _)⟩)
  dsimp only [Pt.U, Pt.locs, Pt.cells, Pt.slots] at X26 l26 y26 z26 st26 hQ26
  subst l26 y26 z26
  refine own_by (fun t kk_ => st26.trans kk_) ?_
  obtain ⟨rfl, N26q, hh26⟩ := hQ26
  have N26 := Fr.app N25 N26q
  have f27 := S25.1
  rw [← hh26] at f27
  have f28 := S25.2.1
  rw [← hh26] at f28
  have f29 := S25.2.2.1
  rw [← hh26] at f29
  have f30 := S25.2.2.2.1
  rw [← hh26] at f30
  have f31 := S25.2.2.2.2.1
  rw [← hh26] at f31
  have f32 := S25.2.2.2.2.2.1
  rw [← hh26] at f32
  have f33 := S25.2.2.2.2.2.2.1
  rw [← hh26] at f33
  have f34 := S25.2.2.2.2.2.2.2.1
  rw [← hh26] at f34
  have f35 := S25.2.2.2.2.2.2.2.2.1
  rw [← hh26] at f35
  have f36 := S25.2.2.2.2.2.2.2.2.2.1
  rw [← hh26] at f36
  have f37 := S25.2.2.2.2.2.2.2.2.2.2
  rw [← hh26] at f37
  have sz26 : n0 ≤ T26.heap.size := by rw [hh26]; exact sz25
  show OwnG p e below s _ _ _ (T26.setTop (mkF m 254 #[.val (.int va), .val (.int vb), .val (.int vc), .val (.int vd), .val (.int ve), .val (.int (0 : Int32)), .val (.int (0 : Int32)), .val (.int (0 : Int32)), .val (.int ds), .val (.int te), .val (.int pa), .val (.int pb), .val (.int qa), .val (.int qb), .val (.int qc), .val (.ref lk), .val (.ref sq), .val (.int (own_lt (own_c (own_set (0 : Int64) pa pb 0)) (0 : Int32))), .unset, .unset, .unset, .unset, .unset, .unset] [(.int (own_lt (own_c (own_set (own_set (0 : Int64) pa pb 0) qa qb qc)) (0 : Int32)))]))
  refine own_by (fun t kk_ => XS.istore X26.here hx rfl (hb hby at_254) rfl (l' := #[.val (.int va), .val (.int vb), .val (.int vc), .val (.int vd), .val (.int ve), .val (.int (0 : Int32)), .val (.int (0 : Int32)), .val (.int (0 : Int32)), .val (.int ds), .val (.int te), .val (.int pa), .val (.int pb), .val (.int qa), .val (.int qb), .val (.int qc), .val (.ref lk), .val (.ref sq), .val (.int (own_lt (own_c (own_set (0 : Int64) pa pb 0)) (0 : Int32))), .val (.int (own_lt (own_c (own_set (own_set (0 : Int64) pa pb 0) qa qb qc)) (0 : Int32))), .unset, .unset, .unset, .unset, .unset]) rfl kk_) ?_
  show OwnG p e below s _ _ _ (T26.setTop (mkF m 256 #[.val (.int va), .val (.int vb), .val (.int vc), .val (.int vd), .val (.int ve), .val (.int (0 : Int32)), .val (.int (0 : Int32)), .val (.int (0 : Int32)), .val (.int ds), .val (.int te), .val (.int pa), .val (.int pb), .val (.int qa), .val (.int qb), .val (.int qc), .val (.ref lk), .val (.ref sq), .val (.int (own_lt (own_c (own_set (0 : Int64) pa pb 0)) (0 : Int32))), .val (.int (own_lt (own_c (own_set (own_set (0 : Int64) pa pb 0) qa qb qc)) (0 : Int32))), .unset, .unset, .unset, .unset, .unset] []))
  exact own_t256 va vb vc vd ve (0 : Int32) (0 : Int32) (0 : Int32) ds te pa pb qa qb qc _ _ lk sq X26 hx hby hml hret hlk hown hnm hZ hw (rfl : T26.heap = T26.heap) N26 sz26 (own_h1 (Or.inl rfl) za zb) (own_h2 (Or.inl rfl) za zb zc zd ze)
set_option maxRecDepth 65536 in
set_option maxHeartbeats 40000000 in
theorem own_m01 {p : Program} {l : Launch} {e : Env} {s : State} {m : MethodId} {args : Array Value} {below : List Frame} {meth : Method} {c : Code} {T0 : State} {locs : List Loc} {Z : State} {a0 : Array Value} {h0 : Heap} {n0 : Nat} (va vb vc vd ve ds te pa pb qa qb qc : Int32) (X0 : Stand p l e room_1 s m args below meth c T0 locs (0) (0)) (hx : p.tables.exec = Jvm.exec) (hby : c.code = code) (hml : c.maxLocals = 24) (hret : meth.sig.returnType = some .boolean) (hlk : meth.locks = false) (hown : s.vm.findClass "com/example/score_on_crawl/scoreoncrawl/engine/BreadthFirstSequenceHasNextPinLaw" = some m.cls) (hnm : meth.name = "law") (hZ : Z.Warmed39 s.vm) (hw : ∀ d ∈ tables_1, d.before a0 Z = true) (e0 : T0.heap = h0) (N0 : Fr n0 locs) (Z0 : n0 ≤ h0.size) (SA : Sta Z h0 "java/util/BitSet" "$assertionsDisabled" "Z" (.int (1 : Int32))) (za : own_z pa) (zb : own_z pb) (zc : own_z qa) (zd : own_z qb) (ze : own_z qc) :
    OwnG p e below s (fun v h L => v = some (.int (1 : Int32)) ∧ Fr n0 L) room_1.cells room_1.slots (T0.setTop (mkF m 151 #[.val (.int va), .val (.int vb), .val (.int vc), .val (.int vd), .val (.int ve), .val (.int (0 : Int32)), .val (.int (1 : Int32)), .val (.int (1 : Int32)), .val (.int ds), .val (.int te), .val (.int pa), .val (.int pb), .val (.int qa), .val (.int qb), .val (.int qc), .unset, .unset, .unset, .unset, .unset, .unset, .unset, .unset, .unset] [])) := by
  show OwnG p e below s _ _ _ (T0.setTop (mkF m 151 #[.val (.int va), .val (.int vb), .val (.int vc), .val (.int vd), .val (.int ve), .val (.int (0 : Int32)), .val (.int (1 : Int32)), .val (.int (1 : Int32)), .val (.int ds), .val (.int te), .val (.int pa), .val (.int pb), .val (.int qa), .val (.int qb), .val (.int qc), .unset, .unset, .unset, .unset, .unset, .unset, .unset, .unset, .unset] []))
  refine own_by (fun t kk_ => XS.iconst X0.here hx rfl (hb hby at_151) kk_) ?_
  show OwnG p e below s _ _ _ (T0.setTop (mkF m 152 #[.val (.int va), .val (.int vb), .val (.int vc), .val (.int vd), .val (.int ve), .val (.int (0 : Int32)), .val (.int (1 : Int32)), .val (.int (1 : Int32)), .val (.int ds), .val (.int te), .val (.int pa), .val (.int pb), .val (.int qa), .val (.int qb), .val (.int qc), .unset, .unset, .unset, .unset, .unset, .unset, .unset, .unset, .unset] [(.int (0 : Int32))]))
  obtain ⟨T1, h1, k1, X1, e1, E1, A1, st1⟩ := newP X0 hx hZ (hw _ (List.mem_of_getElem? (i := 1) rfl)) e0 (g := (mkF m 152 #[.val (.int va), .val (.int vb), .val (.int vc), .val (.int vd), .val (.int ve), .val (.int (0 : Int32)), .val (.int (1 : Int32)), .val (.int (1 : Int32)), .val (.int ds), .val (.int te), .val (.int pa), .val (.int pb), .val (.int qa), .val (.int qb), .val (.int qc), .unset, .unset, .unset, .unset, .unset, .unset, .unset, .unset, .unset] [(.int (0 : Int32))])) rfl (hb hby at_152) rfl (by decide) (cap := 0) (by decide) (by decide) (by decide) (by decide)
  obtain ⟨lk, g1⟩ : ∃ z, z = h0.size := ⟨_, rfl⟩
  rw [← g1] at A1 st1
  have gg_lk : n0 ≤ lk := by rw [g1]; exact Z0
  have sz1 : n0 ≤ h1.size := Nat.le_trans Z0 E1.1
  refine own_by (fun t kk_ => st1 _ kk_) ?_
  have f2 := Sta.ext E1 SA
  have f3 : OwnA Z h1 lk .int 0 (fun _ => (defaultValue .int)) := OwnA.new A1 (n := 0) (by decide) rfl
  show OwnG p e below s _ _ _ (T1.setTop (mkF m 154 #[.val (.int va), .val (.int vb), .val (.int vc), .val (.int vd), .val (.int ve), .val (.int (0 : Int32)), .val (.int (1 : Int32)), .val (.int (1 : Int32)), .val (.int ds), .val (.int te), .val (.int pa), .val (.int pb), .val (.int qa), .val (.int qb), .val (.int qc), .unset, .unset, .unset, .unset, .unset, .unset, .unset, .unset, .unset] [(.ref lk)]))
  refine own_by (fun t kk_ => XS.astore X1.here hx rfl (hb hby at_154) rfl rfl (l' := #[.val (.int va), .val (.int vb), .val (.int vc), .val (.int vd), .val (.int ve), .val (.int (0 : Int32)), .val (.int (1 : Int32)), .val (.int (1 : Int32)), .val (.int ds), .val (.int te), .val (.int pa), .val (.int pb), .val (.int qa), .val (.int qb), .val (.int qc), .val (.ref lk), .unset, .unset, .unset, .unset, .unset, .unset, .unset, .unset]) rfl kk_) ?_
  show OwnG p e below s _ _ _ (T1.setTop (mkF m 156 #[.val (.int va), .val (.int vb), .val (.int vc), .val (.int vd), .val (.int ve), .val (.int (0 : Int32)), .val (.int (1 : Int32)), .val (.int (1 : Int32)), .val (.int ds), .val (.int te), .val (.int pa), .val (.int pb), .val (.int qa), .val (.int qb), .val (.int qc), .val (.ref lk), .unset, .unset, .unset, .unset, .unset, .unset, .unset, .unset] []))
  obtain ⟨T4, h4, X4, e4, E4, A4, D4, -, st4⟩ := newO X1 hx hZ hown (hw _ (List.mem_of_getElem? (i := 2) rfl)) (hw _ (List.mem_of_getElem? (i := 3) rfl)) (hw _ (List.mem_of_getElem? (i := 4) rfl)) e1 (g := (mkF m 156 #[.val (.int va), .val (.int vb), .val (.int vc), .val (.int vd), .val (.int ve), .val (.int (0 : Int32)), .val (.int (1 : Int32)), .val (.int (1 : Int32)), .val (.int ds), .val (.int te), .val (.int pa), .val (.int pb), .val (.int qa), .val (.int qb), .val (.int qc), .val (.ref lk), .unset, .unset, .unset, .unset, .unset, .unset, .unset, .unset] [])) rfl (hb hby at_156) (by decide) (by decide)
  obtain ⟨sq, g4⟩ : ∃ z, z = h1.size := ⟨_, rfl⟩
  rw [← g4] at A4 D4 st4
  have ne5 : lk ≠ sq := fun q => absurd f3.lt (by rw [q, g4]; exact Nat.lt_irrefl _)
  have gg_sq : n0 ≤ sq := by rw [g4]; exact sz1
  have sz4 : n0 ≤ h4.size := Nat.le_trans sz1 E4.1
  refine own_by (fun t kk_ => st4 _ kk_) ?_
  have f6 := Sta.ext E4 f2
  have f7 := OwnA.ext E4 f3
  have f8 : Fld Z h4 sq "com/example/score_on_crawl/scoreoncrawl/engine/BreadthFirstSequence" "fetched" "Lcom/example/score_on_crawl/scoreoncrawl/engine/FetchedPages;" .null := D4 (Or.inr (hw _ (List.mem_of_getElem? (i := 43) rfl))) (ty := (.object "com/example/score_on_crawl/scoreoncrawl/engine/FetchedPages")) (by decide)
  have f9 : Fld Z h4 sq "com/example/score_on_crawl/scoreoncrawl/engine/BreadthFirstSequence" "cursor" "I" (.int (0 : Int32)) := D4 (Or.inl (hw _ (List.mem_of_getElem? (i := 54) rfl))) (ty := .int) (by decide)
  have f10 : Fld Z h4 sq "com/example/score_on_crawl/scoreoncrawl/engine/BreadthFirstSequence" "pages" "I" (.int (0 : Int32)) := D4 (Or.inl (hw _ (List.mem_of_getElem? (i := 56) rfl))) (ty := .int) (by decide)
  show OwnG p e below s _ _ _ (T4.setTop (mkF m 159 #[.val (.int va), .val (.int vb), .val (.int vc), .val (.int vd), .val (.int ve), .val (.int (0 : Int32)), .val (.int (1 : Int32)), .val (.int (1 : Int32)), .val (.int ds), .val (.int te), .val (.int pa), .val (.int pb), .val (.int qa), .val (.int qb), .val (.int qc), .val (.ref lk), .unset, .unset, .unset, .unset, .unset, .unset, .unset, .unset] [(.ref sq)]))
  refine own_by (fun t kk_ => XS.dup X4.here hx rfl (hb hby at_159) rfl rfl kk_) ?_
  show OwnG p e below s _ _ _ (T4.setTop (mkF m 160 #[.val (.int va), .val (.int vb), .val (.int vc), .val (.int vd), .val (.int ve), .val (.int (0 : Int32)), .val (.int (1 : Int32)), .val (.int (1 : Int32)), .val (.int ds), .val (.int te), .val (.int pa), .val (.int pb), .val (.int qa), .val (.int qb), .val (.int qc), .val (.ref lk), .unset, .unset, .unset, .unset, .unset, .unset, .unset, .unset] [(.ref sq), (.ref sq)]))
  obtain ⟨_, _, ⟨T11, L11, k11, n11⟩, -, X11, ⟨Lc11, hQ11, l11, y11, z11⟩, st11⟩ := X4.specialBack hx (y := (⟨"com/example/score_on_crawl/scoreoncrawl/engine/BreadthFirstSequence", "<init>", "()V"⟩ : MethodName)) rfl hown (mvT hZ (hw _ (List.mem_of_getElem? (i := 5) rfl))) (mvT hZ (hw _ (List.mem_of_getElem? (i := 6) rfl))) (mvT hZ (hw _ (List.mem_of_getElem? (i := 7) rfl))) (by decide) (backOf (W := 1) (rm1 l Z a0 hw [] sq h4 n0 sz4 A4 f8 f10 f9 f6 gg_sq) hZ (hw _ (List.mem_of_getElem? (i := 7) rfl)) (hw _ (List.mem_of_getElem? (i := 4) rfl)) (by decide) (by decide)) (g := (mkF m 160 #[.val (.int va), .val (.int vb), .val (.int vc), .val (.int vd), .val (.int ve), .val (.int (0 : Int32)), .val (.int (1 : Int32)), .val (.int (1 : Int32)), .val (.int ds), .val (.int te), .val (.int pa), .val (.int pb), .val (.int qa), .val (.int qb), .val (.int qc), .val (.ref lk), .unset, .unset, .unset, .unset, .unset, .unset, .unset, .unset] [(.ref sq), (.ref sq)])) rfl (by rw [hml]; rfl) (Steps.refl _) (a := sq) (argsL := []) (rest := [(.ref sq)]) (lenOf pd_2 rfl) rfl (by show 2 * 0 + _ ≤ _; exact Nat.le_of_eq rfl) (hb hby at_160) (fun _ _ => ⟨rfl, e4, (by decide : 0 + 1 + 1 + 3 ≤ _), (by decide : 0 + 3 + 5 ≤ _)⟩)
  dsimp only [Pt.U, Pt.locs, Pt.cells, Pt.slots] at X11 l11 y11 z11 st11 hQ11
  subst l11 y11 z11
  refine own_by (fun t kk_ => st11.trans kk_) ?_
  obtain ⟨rfl, N11q, fp, bs, wa, S11, Nn⟩ := hQ11
  have N11 := Fr.app N0 N11q
  have sz11 : n0 ≤ T11.heap.size := Nat.le_trans Nn.1 (Nat.le_of_lt (Exa.lt S11.1))
  show OwnG p e below s _ _ _ (T11.setTop (mkF m 163 #[.val (.int va), .val (.int vb), .val (.int vc), .val (.int vd), .val (.int ve), .val (.int (0 : Int32)), .val (.int (1 : Int32)), .val (.int (1 : Int32)), .val (.int ds), .val (.int te), .val (.int pa), .val (.int pb), .val (.int qa), .val (.int qb), .val (.int qc), .val (.ref lk), .unset, .unset, .unset, .unset, .unset, .unset, .unset, .unset] [(.ref sq)]))
  refine own_by (fun t kk_ => XS.astore X11.here hx rfl (hb hby at_163) rfl rfl (l' := #[.val (.int va), .val (.int vb), .val (.int vc), .val (.int vd), .val (.int ve), .val (.int (0 : Int32)), .val (.int (1 : Int32)), .val (.int (1 : Int32)), .val (.int ds), .val (.int te), .val (.int pa), .val (.int pb), .val (.int qa), .val (.int qb), .val (.int qc), .val (.ref lk), .val (.ref sq), .unset, .unset, .unset, .unset, .unset, .unset, .unset]) rfl kk_) ?_
  show OwnG p e below s _ _ _ (T11.setTop (mkF m 165 #[.val (.int va), .val (.int vb), .val (.int vc), .val (.int vd), .val (.int ve), .val (.int (0 : Int32)), .val (.int (1 : Int32)), .val (.int (1 : Int32)), .val (.int ds), .val (.int te), .val (.int pa), .val (.int pb), .val (.int qa), .val (.int qb), .val (.int qc), .val (.ref lk), .val (.ref sq), .unset, .unset, .unset, .unset, .unset, .unset, .unset] []))
  refine own_by (fun t kk_ => XS.iload X11.here hx rfl (hb hby at_165) rfl  kk_) ?_
  show OwnG p e below s _ _ _ (T11.setTop (mkF m 167 #[.val (.int va), .val (.int vb), .val (.int vc), .val (.int vd), .val (.int ve), .val (.int (0 : Int32)), .val (.int (1 : Int32)), .val (.int (1 : Int32)), .val (.int ds), .val (.int te), .val (.int pa), .val (.int pb), .val (.int qa), .val (.int qb), .val (.int qc), .val (.ref lk), .val (.ref sq), .unset, .unset, .unset, .unset, .unset, .unset, .unset] [(.int (0 : Int32))]))
  refine own_by (fun t kk_ => XS.ifYes X11.here hx rfl (pc0 := 167) (pc' := 178) rfl (hb hby at_167) rfl ((if0 _ _).trans (flt (by decide)).2.2.2) (by decide) (by decide) kk_) ?_
  show OwnG p e below s _ _ _ (T11.setTop (mkF m 178 #[.val (.int va), .val (.int vb), .val (.int vc), .val (.int vd), .val (.int ve), .val (.int (0 : Int32)), .val (.int (1 : Int32)), .val (.int (1 : Int32)), .val (.int ds), .val (.int te), .val (.int pa), .val (.int pb), .val (.int qa), .val (.int qb), .val (.int qc), .val (.ref lk), .val (.ref sq), .unset, .unset, .unset, .unset, .unset, .unset, .unset] []))
  refine own_by (fun t kk_ => XS.iload X11.here hx rfl (hb hby at_178) rfl  kk_) ?_
  show OwnG p e below s _ _ _ (T11.setTop (mkF m 180 #[.val (.int va), .val (.int vb), .val (.int vc), .val (.int vd), .val (.int ve), .val (.int (0 : Int32)), .val (.int (1 : Int32)), .val (.int (1 : Int32)), .val (.int ds), .val (.int te), .val (.int pa), .val (.int pb), .val (.int qa), .val (.int qb), .val (.int qc), .val (.ref lk), .val (.ref sq), .unset, .unset, .unset, .unset, .unset, .unset, .unset] [(.int (0 : Int32))]))
  refine own_by (fun t kk_ => XS.iconst X11.here hx rfl (hb hby at_180) kk_) ?_
  show OwnG p e below s _ _ _ (T11.setTop (mkF m 181 #[.val (.int va), .val (.int vb), .val (.int vc), .val (.int vd), .val (.int ve), .val (.int (0 : Int32)), .val (.int (1 : Int32)), .val (.int (1 : Int32)), .val (.int ds), .val (.int te), .val (.int pa), .val (.int pb), .val (.int qa), .val (.int qb), .val (.int qc), .val (.ref lk), .val (.ref sq), .unset, .unset, .unset, .unset, .unset, .unset, .unset] [(.int (1 : Int32)), (.int (0 : Int32))]))
  refine own_by (fun t kk_ => XS.icmpYes X11.here hx rfl (pc0 := 181) (pc' := 200) rfl (hb hby at_181) rfl (flt (by decide)).2.2.2 (by decide) (by decide) kk_) ?_
  show OwnG p e below s _ _ _ (T11.setTop (mkF m 200 #[.val (.int va), .val (.int vb), .val (.int vc), .val (.int vd), .val (.int ve), .val (.int (0 : Int32)), .val (.int (1 : Int32)), .val (.int (1 : Int32)), .val (.int ds), .val (.int te), .val (.int pa), .val (.int pb), .val (.int qa), .val (.int qb), .val (.int qc), .val (.ref lk), .val (.ref sq), .unset, .unset, .unset, .unset, .unset, .unset, .unset] []))
  refine own_by (fun t kk_ => XS.aload X11.here hx rfl (hb hby at_200) rfl rfl kk_) ?_
  show OwnG p e below s _ _ _ (T11.setTop (mkF m 202 #[.val (.int va), .val (.int vb), .val (.int vc), .val (.int vd), .val (.int ve), .val (.int (0 : Int32)), .val (.int (1 : Int32)), .val (.int (1 : Int32)), .val (.int ds), .val (.int te), .val (.int pa), .val (.int pb), .val (.int qa), .val (.int qb), .val (.int qc), .val (.ref lk), .val (.ref sq), .unset, .unset, .unset, .unset, .unset, .unset, .unset] [(.ref sq)]))
  refine own_by (fun t kk_ => XS.iload X11.here hx rfl (hb hby at_202) rfl  kk_) ?_
  show OwnG p e below s _ _ _ (T11.setTop (mkF m 204 #[.val (.int va), .val (.int vb), .val (.int vc), .val (.int vd), .val (.int ve), .val (.int (0 : Int32)), .val (.int (1 : Int32)), .val (.int (1 : Int32)), .val (.int ds), .val (.int te), .val (.int pa), .val (.int pb), .val (.int qa), .val (.int qb), .val (.int qc), .val (.ref lk), .val (.ref sq), .unset, .unset, .unset, .unset, .unset, .unset, .unset] [(.int pa), (.ref sq)]))
  refine own_by (fun t kk_ => XS.iload X11.here hx rfl (hb hby at_204) rfl  kk_) ?_
  show OwnG p e below s _ _ _ (T11.setTop (mkF m 206 #[.val (.int va), .val (.int vb), .val (.int vc), .val (.int vd), .val (.int ve), .val (.int (0 : Int32)), .val (.int (1 : Int32)), .val (.int (1 : Int32)), .val (.int ds), .val (.int te), .val (.int pa), .val (.int pb), .val (.int qa), .val (.int qb), .val (.int qc), .val (.ref lk), .val (.ref sq), .unset, .unset, .unset, .unset, .unset, .unset, .unset] [(.int pb), (.int pa), (.ref sq)]))
  refine own_by (fun t kk_ => XS.iload X11.here hx rfl (hb hby at_206) rfl  kk_) ?_
  show OwnG p e below s _ _ _ (T11.setTop (mkF m 208 #[.val (.int va), .val (.int vb), .val (.int vc), .val (.int vd), .val (.int ve), .val (.int (0 : Int32)), .val (.int (1 : Int32)), .val (.int (1 : Int32)), .val (.int ds), .val (.int te), .val (.int pa), .val (.int pb), .val (.int qa), .val (.int qb), .val (.int qc), .val (.ref lk), .val (.ref sq), .unset, .unset, .unset, .unset, .unset, .unset, .unset] [(.int ds), (.int pb), (.int pa), (.ref sq)]))
  refine own_by (fun t kk_ => XS.aload X11.here hx rfl (hb hby at_208) rfl rfl kk_) ?_
  show OwnG p e below s _ _ _ (T11.setTop (mkF m 210 #[.val (.int va), .val (.int vb), .val (.int vc), .val (.int vd), .val (.int ve), .val (.int (0 : Int32)), .val (.int (1 : Int32)), .val (.int (1 : Int32)), .val (.int ds), .val (.int te), .val (.int pa), .val (.int pb), .val (.int qa), .val (.int qb), .val (.int qc), .val (.ref lk), .val (.ref sq), .unset, .unset, .unset, .unset, .unset, .unset, .unset] [(.ref lk), (.int ds), (.int pb), (.int pa), (.ref sq)]))
  obtain ⟨_, _, ⟨T12, L12, k12, n12⟩, -, X12, ⟨Lc12, hQ12, l12, y12, z12⟩, st12⟩ := Jvm.LawKit.callS X11 hx (y := (⟨"com/example/score_on_crawl/scoreoncrawl/engine/BreadthFirstSequenceHasNextPinLaw", "fetchTwo", "(Lcom/example/score_on_crawl/scoreoncrawl/engine/BreadthFirstSequence;ZZZ[I)V"⟩ : MethodName)) hown (mvT hZ (hw _ (List.mem_of_getElem? (i := 44) rfl))) (mvT hZ (hw _ (List.mem_of_getElem? (i := 45) rfl))) (mvT hZ (hw _ (List.mem_of_getElem? (i := 46) rfl))) (mvT hZ (hw _ (List.mem_of_getElem? (i := 47) rfl))) (by decide) (backOf (W := 0) (rm7 l Z a0 hw [] sq fp bs wa lk (0 : Int32) (0 : Int32) (0 : Int32) pa pb ds (0 : Int64) T11.heap n0 sz11 ⟨S11.1, S11.2.1, S11.2.2.1, S11.2.2.2.1, ⟨S11.2.2.2.2.1, S11.2.2.2.2.2.1, ⟨S11.2.2.2.2.2.2.1, S11.2.2.2.2.2.2.2.1, S11.2.2.2.2.2.2.2.2.1, S11.2.2.2.2.2.2.2.2.2.1, S11.2.2.2.2.2.2.2.2.2.2⟩⟩⟩ Nn (Or.inl rfl) (Or.inl rfl) rfl) hZ (hw _ (List.mem_of_getElem? (i := 47) rfl)) (hw _ (List.mem_of_getElem? (i := 46) rfl)) (by decide) (by decide)) (g := (mkF m 210 #[.val (.int va), .val (.int vb), .val (.int vc), .val (.int vd), .val (.int ve), .val (.int (0 : Int32)), .val (.int (1 : Int32)), .val (.int (1 : Int32)), .val (.int ds), .val (.int te), .val (.int pa), .val (.int pb), .val (.int qa), .val (.int qb), .val (.int qc), .val (.ref lk), .val (.ref sq), .unset, .unset, .unset, .unset, .unset, .unset, .unset] [(.ref lk), (.int ds), (.int pb), (.int pa), (.ref sq)])) rfl (by rw [hml]; rfl) (argsL := [(.ref sq), (.int pa), (.int pb), (.int ds), (.ref lk)]) (rest := []) (lenOf pd_6 rfl) rfl (by show 2 * 0 + _ ≤ _; exact Nat.le_of_eq rfl) (hb hby at_210) (fun _ _ => ⟨rfl, (rfl : T11.heap = T11.heap), (by decide : 0 + 1 + 1 + 3 + 0 ≤ _), (by decide : 0 + 3 + 5 + 0 ≤ _)⟩)
  dsimp only [Pt.U, Pt.locs, Pt.cells, Pt.slots] at X12 l12 y12 z12 st12 hQ12
  subst l12 y12 z12
  refine own_by (fun t kk_ => st12 _ kk_) ?_
  obtain ⟨rfl, N12q, u12, hm12, hu12, S12⟩ := hQ12
  have N12 := Fr.app N11 N12q
  have sz12 : n0 ≤ T12.heap.size := Nat.le_trans Nn.1 (Nat.le_of_lt (Exa.lt S12.1))
  show OwnG p e below s _ _ _ (T12.setTop (mkF m 213 #[.val (.int va), .val (.int vb), .val (.int vc), .val (.int vd), .val (.int ve), .val (.int (0 : Int32)), .val (.int (1 : Int32)), .val (.int (1 : Int32)), .val (.int ds), .val (.int te), .val (.int pa), .val (.int pb), .val (.int qa), .val (.int qb), .val (.int qc), .val (.ref lk), .val (.ref sq), .unset, .unset, .unset, .unset, .unset, .unset, .unset] []))
  refine own_by (fun t kk_ => XS.aload X12.here hx rfl (hb hby at_213) rfl rfl kk_) ?_
  show OwnG p e below s _ _ _ (T12.setTop (mkF m 215 #[.val (.int va), .val (.int vb), .val (.int vc), .val (.int vd), .val (.int ve), .val (.int (0 : Int32)), .val (.int (1 : Int32)), .val (.int (1 : Int32)), .val (.int ds), .val (.int te), .val (.int pa), .val (.int pb), .val (.int qa), .val (.int qb), .val (.int qc), .val (.ref lk), .val (.ref sq), .unset, .unset, .unset, .unset, .unset, .unset, .unset] [(.ref sq)]))
  obtain ⟨cq13, kq13, q13a, q13b, q13c⟩ := isOf hZ (rfl : T12.heap = T12.heap) S12.1
  obtain ⟨_, _, ⟨T13, L13, k13, n13⟩, -, X13, ⟨Lc13, hQ13, l13, y13, z13⟩, st13⟩ := X12.virtualBack hx (y := (⟨"com/example/score_on_crawl/scoreoncrawl/engine/BreadthFirstSequence", "hasNext", "()Z"⟩ : MethodName)) (z := (⟨"com/example/score_on_crawl/scoreoncrawl/engine/BreadthFirstSequence", "hasNext", "()Z"⟩ : MethodName)) hown (mvT hZ (hw _ (List.mem_of_getElem? (i := 48) rfl))) (mvT hZ (hw _ (List.mem_of_getElem? (i := 49) rfl))) (notFace_of_selects (args := #[]) (mvT hZ (hw _ (List.mem_of_getElem? (i := 51) rfl)))) (mvT hZ (hw _ (List.mem_of_getElem? (i := 51) rfl))) (mvT hZ (hw _ (List.mem_of_getElem? (i := 50) rfl))) (by decide) (backOf (W := 0) (rm8 l Z a0 hw [] sq fp bs wa (0 : Int32) (own_c (own_set (0 : Int64) pa pb 0)) u12 (own_set (0 : Int64) pa pb 0) T12.heap n0 sz12 ⟨S12.1, S12.2.1, S12.2.2.1, S12.2.2.2.1, ⟨S12.2.2.2.2.1, S12.2.2.2.2.2.1, ⟨S12.2.2.2.2.2.2.1, S12.2.2.2.2.2.2.2.1, S12.2.2.2.2.2.2.2.2.1, S12.2.2.2.2.2.2.2.2.2.1, S12.2.2.2.2.2.2.2.2.2.2⟩⟩⟩) hZ (hw _ (List.mem_of_getElem? (i := 52) rfl)) (hw _ (List.mem_of_getElem? (i := 4) rfl)) (by decide) (by decide)) q13a q13c (g := (mkF m 215 #[.val (.int va), .val (.int vb), .val (.int vc), .val (.int vd), .val (.int ve), .val (.int (0 : Int32)), .val (.int (1 : Int32)), .val (.int (1 : Int32)), .val (.int ds), .val (.int te), .val (.int pa), .val (.int pb), .val (.int qa), .val (.int qb), .val (.int qc), .val (.ref lk), .val (.ref sq), .unset, .unset, .unset, .unset, .unset, .unset, .unset] [(.ref sq)])) rfl (by rw [hml]; rfl) (Steps.refl _) (argsL := []) (rest := []) (lenOf pd_7 rfl) rfl (by show 2 * 0 + _ ≤ _; exact Nat.le_of_eq rfl) (hb hby at_215) (fun _ _ => ⟨rfl, (rfl : T12.heap = T12.heap), (by decide : 0 + 1 + 1 + 3 + 0 ≤ _), (by decide : 0 + 3 + 5 + 0 ≤ _)⟩)
  dsimp only [Pt.U, Pt.locs, Pt.cells, Pt.slots] at X13 l13 y13 z13 st13 hQ13
  subst l13 y13 z13
  refine own_by (fun t kk_ => st13.trans kk_) ?_
  obtain ⟨rfl, N13q, hh13⟩ := hQ13
  have N13 := Fr.app N12 N13q
  have f14 := S12.1
  rw [← hh13] at f14
  have f15 := S12.2.1
  rw [← hh13] at f15
  have f16 := S12.2.2.1
  rw [← hh13] at f16
  have f17 := S12.2.2.2.1
  rw [← hh13] at f17
  have f18 := S12.2.2.2.2.1
  rw [← hh13] at f18
  have f19 := S12.2.2.2.2.2.1
  rw [← hh13] at f19
  have f20 := S12.2.2.2.2.2.2.1
  rw [← hh13] at f20
  have f21 := S12.2.2.2.2.2.2.2.1
  rw [← hh13] at f21
  have f22 := S12.2.2.2.2.2.2.2.2.1
  rw [← hh13] at f22
  have f23 := S12.2.2.2.2.2.2.2.2.2.1
  rw [← hh13] at f23
  have f24 := S12.2.2.2.2.2.2.2.2.2.2
  rw [← hh13] at f24
  have sz13 : n0 ≤ T13.heap.size := by rw [hh13]; exact sz12
  show OwnG p e below s _ _ _ (T13.setTop (mkF m 218 #[.val (.int va), .val (.int vb), .val (.int vc), .val (.int vd), .val (.int ve), .val (.int (0 : Int32)), .val (.int (1 : Int32)), .val (.int (1 : Int32)), .val (.int ds), .val (.int te), .val (.int pa), .val (.int pb), .val (.int qa), .val (.int qb), .val (.int qc), .val (.ref lk), .val (.ref sq), .unset, .unset, .unset, .unset, .unset, .unset, .unset] [(.int (own_lt (own_c (own_set (0 : Int64) pa pb 0)) (0 : Int32)))]))
  refine own_by (fun t kk_ => XS.istore X13.here hx rfl (hb hby at_218) rfl (l' := #[.val (.int va), .val (.int vb), .val (.int vc), .val (.int vd), .val (.int ve), .val (.int (0 : Int32)), .val (.int (1 : Int32)), .val (.int (1 : Int32)), .val (.int ds), .val (.int te), .val (.int pa), .val (.int pb), .val (.int qa), .val (.int qb), .val (.int qc), .val (.ref lk), .val (.ref sq), .val (.int (own_lt (own_c (own_set (0 : Int64) pa pb 0)) (0 : Int32))), .unset, .unset, .unset, .unset, .unset, .unset]) rfl kk_) ?_
  show OwnG p e below s _ _ _ (T13.setTop (mkF m 220 #[.val (.int va), .val (.int vb), .val (.int vc), .val (.int vd), .val (.int ve), .val (.int (0 : Int32)), .val (.int (1 : Int32)), .val (.int (1 : Int32)), .val (.int ds), .val (.int te), .val (.int pa), .val (.int pb), .val (.int qa), .val (.int qb), .val (.int qc), .val (.ref lk), .val (.ref sq), .val (.int (own_lt (own_c (own_set (0 : Int64) pa pb 0)) (0 : Int32))), .unset, .unset, .unset, .unset, .unset, .unset] []))
  refine own_by (fun t kk_ => XS.iload X13.here hx rfl (hb hby at_220) rfl  kk_) ?_
  show OwnG p e below s _ _ _ (T13.setTop (mkF m 222 #[.val (.int va), .val (.int vb), .val (.int vc), .val (.int vd), .val (.int ve), .val (.int (0 : Int32)), .val (.int (1 : Int32)), .val (.int (1 : Int32)), .val (.int ds), .val (.int te), .val (.int pa), .val (.int pb), .val (.int qa), .val (.int qb), .val (.int qc), .val (.ref lk), .val (.ref sq), .val (.int (own_lt (own_c (own_set (0 : Int64) pa pb 0)) (0 : Int32))), .unset, .unset, .unset, .unset, .unset, .unset] [(.int (1 : Int32))]))
  refine own_by (fun t kk_ => XS.ifNo X13.here hx rfl (hb hby at_222) rfl ((if0 _ _).trans (tlt (by decide)).2.2.2) kk_) ?_
  show OwnG p e below s _ _ _ (T13.setTop (mkF m 225 #[.val (.int va), .val (.int vb), .val (.int vc), .val (.int vd), .val (.int ve), .val (.int (0 : Int32)), .val (.int (1 : Int32)), .val (.int (1 : Int32)), .val (.int ds), .val (.int te), .val (.int pa), .val (.int pb), .val (.int qa), .val (.int qb), .val (.int qc), .val (.ref lk), .val (.ref sq), .val (.int (own_lt (own_c (own_set (0 : Int64) pa pb 0)) (0 : Int32))), .unset, .unset, .unset, .unset, .unset, .unset] []))
  refine own_by (fun t kk_ => XS.aload X13.here hx rfl (hb hby at_225) rfl rfl kk_) ?_
  show OwnG p e below s _ _ _ (T13.setTop (mkF m 227 #[.val (.int va), .val (.int vb), .val (.int vc), .val (.int vd), .val (.int ve), .val (.int (0 : Int32)), .val (.int (1 : Int32)), .val (.int (1 : Int32)), .val (.int ds), .val (.int te), .val (.int pa), .val (.int pb), .val (.int qa), .val (.int qb), .val (.int qc), .val (.ref lk), .val (.ref sq), .val (.int (own_lt (own_c (own_set (0 : Int64) pa pb 0)) (0 : Int32))), .unset, .unset, .unset, .unset, .unset, .unset] [(.ref sq)]))
  refine own_by (fun t kk_ => XS.iload X13.here hx rfl (hb hby at_227) rfl  kk_) ?_
  show OwnG p e below s _ _ _ (T13.setTop (mkF m 229 #[.val (.int va), .val (.int vb), .val (.int vc), .val (.int vd), .val (.int ve), .val (.int (0 : Int32)), .val (.int (1 : Int32)), .val (.int (1 : Int32)), .val (.int ds), .val (.int te), .val (.int pa), .val (.int pb), .val (.int qa), .val (.int qb), .val (.int qc), .val (.ref lk), .val (.ref sq), .val (.int (own_lt (own_c (own_set (0 : Int64) pa pb 0)) (0 : Int32))), .unset, .unset, .unset, .unset, .unset, .unset] [(.int (0 : Int32)), (.ref sq)]))
  refine own_by (fun t kk_ => XS.iload X13.here hx rfl (hb hby at_229) rfl  kk_) ?_
  show OwnG p e below s _ _ _ (T13.setTop (mkF m 231 #[.val (.int va), .val (.int vb), .val (.int vc), .val (.int vd), .val (.int ve), .val (.int (0 : Int32)), .val (.int (1 : Int32)), .val (.int (1 : Int32)), .val (.int ds), .val (.int te), .val (.int pa), .val (.int pb), .val (.int qa), .val (.int qb), .val (.int qc), .val (.ref lk), .val (.ref sq), .val (.int (own_lt (own_c (own_set (0 : Int64) pa pb 0)) (0 : Int32))), .unset, .unset, .unset, .unset, .unset, .unset] [(.int te), (.int (0 : Int32)), (.ref sq)]))
  obtain ⟨cq25, kq25, q25a, q25b, q25c⟩ := isOf hZ (rfl : T13.heap = T13.heap) f14
  obtain ⟨_, _, ⟨T25, L25, k25, n25⟩, -, X25, ⟨Lc25, hQ25, l25, y25, z25⟩, st25⟩ := X13.virtualBack hx (y := (⟨"com/example/score_on_crawl/scoreoncrawl/engine/BreadthFirstSequence", "added", "(IZ)V"⟩ : MethodName)) (z := (⟨"com/example/score_on_crawl/scoreoncrawl/engine/BreadthFirstSequence", "added", "(IZ)V"⟩ : MethodName)) hown (mvT hZ (hw _ (List.mem_of_getElem? (i := 57) rfl))) (mvT hZ (hw _ (List.mem_of_getElem? (i := 58) rfl))) (notFace_of_selects (args := #[]) (mvT hZ (hw _ (List.mem_of_getElem? (i := 60) rfl)))) (mvT hZ (hw _ (List.mem_of_getElem? (i := 60) rfl))) (mvT hZ (hw _ (List.mem_of_getElem? (i := 59) rfl))) (by decide) (backOf (W := 0) (rm9 l Z a0 hw [] sq fp bs wa (0 : Int32) (own_c (own_set (0 : Int64) pa pb 0)) u12 (0 : Int32) te (1 : Int32) (own_set (0 : Int64) pa pb 0) T13.heap n0 sz13 ⟨f14, f15, f16, f17, ⟨f18, f19, ⟨f20, f21, f22, f23, f24⟩⟩⟩ Nn (by decide)) hZ (hw _ (List.mem_of_getElem? (i := 61) rfl)) (hw _ (List.mem_of_getElem? (i := 4) rfl)) (by decide) (by decide)) q25a q25c (g := (mkF m 231 #[.val (.int va), .val (.int vb), .val (.int vc), .val (.int vd), .val (.int ve), .val (.int (0 : Int32)), .val (.int (1 : Int32)), .val (.int (1 : Int32)), .val (.int ds), .val (.int te), .val (.int pa), .val (.int pb), .val (.int qa), .val (.int qb), .val (.int qc), .val (.ref lk), .val (.ref sq), .val (.int (own_lt (own_c (own_set (0 : Int64) pa pb 0)) (0 : Int32))), .unset, .unset, .unset, .unset, .unset, .unset] [(.int te), (.int (0 : Int32)), (.ref sq)])) rfl (by rw [hml]; rfl) (Steps.refl _) (argsL := [(.int (0 : Int32)), (.int te)]) (rest := []) (lenOf pd_5 rfl) rfl (by show 2 * 0 + _ ≤ _; exact Nat.le_of_eq rfl) (hb hby at_231) (fun _ _ => ⟨rfl, (rfl : T13.heap = T13.heap), (by decide : 0 + 1 + 1 + 3 + 0 ≤ _), (by decide : 0 + 3 + 5 + 0 ≤ _)⟩)
  dsimp only [Pt.U, Pt.locs, Pt.cells, Pt.slots] at X25 l25 y25 z25 st25 hQ25
  subst l25 y25 z25
  refine own_by (fun t kk_ => st25.trans kk_) ?_
  obtain ⟨rfl, N25q, S25⟩ := hQ25
  have N25 := Fr.app N13 N25q
  have sz25 : n0 ≤ T25.heap.size := Nat.le_trans Nn.1 (Nat.le_of_lt (Exa.lt S25.1))
  show OwnG p e below s _ _ _ (T25.setTop (mkF m 234 #[.val (.int va), .val (.int vb), .val (.int vc), .val (.int vd), .val (.int ve), .val (.int (0 : Int32)), .val (.int (1 : Int32)), .val (.int (1 : Int32)), .val (.int ds), .val (.int te), .val (.int pa), .val (.int pb), .val (.int qa), .val (.int qb), .val (.int qc), .val (.ref lk), .val (.ref sq), .val (.int (own_lt (own_c (own_set (0 : Int64) pa pb 0)) (0 : Int32))), .unset, .unset, .unset, .unset, .unset, .unset] []))
  refine own_by (fun t kk_ => XS.aload X25.here hx rfl (hb hby at_234) rfl rfl kk_) ?_
  show OwnG p e below s _ _ _ (T25.setTop (mkF m 236 #[.val (.int va), .val (.int vb), .val (.int vc), .val (.int vd), .val (.int ve), .val (.int (0 : Int32)), .val (.int (1 : Int32)), .val (.int (1 : Int32)), .val (.int ds), .val (.int te), .val (.int pa), .val (.int pb), .val (.int qa), .val (.int qb), .val (.int qc), .val (.ref lk), .val (.ref sq), .val (.int (own_lt (own_c (own_set (0 : Int64) pa pb 0)) (0 : Int32))), .unset, .unset, .unset, .unset, .unset, .unset] [(.ref sq)]))
  refine own_by (fun t kk_ => XS.iload X25.here hx rfl (hb hby at_236) rfl  kk_) ?_
  show OwnG p e below s _ _ _ (T25.setTop (mkF m 238 #[.val (.int va), .val (.int vb), .val (.int vc), .val (.int vd), .val (.int ve), .val (.int (0 : Int32)), .val (.int (1 : Int32)), .val (.int (1 : Int32)), .val (.int ds), .val (.int te), .val (.int pa), .val (.int pb), .val (.int qa), .val (.int qb), .val (.int qc), .val (.ref lk), .val (.ref sq), .val (.int (own_lt (own_c (own_set (0 : Int64) pa pb 0)) (0 : Int32))), .unset, .unset, .unset, .unset, .unset, .unset] [(.int qa), (.ref sq)]))
  refine own_by (fun t kk_ => XS.iload X25.here hx rfl (hb hby at_238) rfl  kk_) ?_
  show OwnG p e below s _ _ _ (T25.setTop (mkF m 240 #[.val (.int va), .val (.int vb), .val (.int vc), .val (.int vd), .val (.int ve), .val (.int (0 : Int32)), .val (.int (1 : Int32)), .val (.int (1 : Int32)), .val (.int ds), .val (.int te), .val (.int pa), .val (.int pb), .val (.int qa), .val (.int qb), .val (.int qc), .val (.ref lk), .val (.ref sq), .val (.int (own_lt (own_c (own_set (0 : Int64) pa pb 0)) (0 : Int32))), .unset, .unset, .unset, .unset, .unset, .unset] [(.int qb), (.int qa), (.ref sq)]))
  refine own_by (fun t kk_ => XS.iload X25.here hx rfl (hb hby at_240) rfl  kk_) ?_
  show OwnG p e below s _ _ _ (T25.setTop (mkF m 242 #[.val (.int va), .val (.int vb), .val (.int vc), .val (.int vd), .val (.int ve), .val (.int (0 : Int32)), .val (.int (1 : Int32)), .val (.int (1 : Int32)), .val (.int ds), .val (.int te), .val (.int pa), .val (.int pb), .val (.int qa), .val (.int qb), .val (.int qc), .val (.ref lk), .val (.ref sq), .val (.int (own_lt (own_c (own_set (0 : Int64) pa pb 0)) (0 : Int32))), .unset, .unset, .unset, .unset, .unset, .unset] [(.int qc), (.int qb), (.int qa), (.ref sq)]))
  refine own_by (fun t kk_ => XS.iload X25.here hx rfl (hb hby at_242) rfl  kk_) ?_
  show OwnG p e below s _ _ _ (T25.setTop (mkF m 244 #[.val (.int va), .val (.int vb), .val (.int vc), .val (.int vd), .val (.int ve), .val (.int (0 : Int32)), .val (.int (1 : Int32)), .val (.int (1 : Int32)), .val (.int ds), .val (.int te), .val (.int pa), .val (.int pb), .val (.int qa), .val (.int qb), .val (.int qc), .val (.ref lk), .val (.ref sq), .val (.int (own_lt (own_c (own_set (0 : Int64) pa pb 0)) (0 : Int32))), .unset, .unset, .unset, .unset, .unset, .unset] [(.int ds), (.int qc), (.int qb), (.int qa), (.ref sq)]))
  refine own_by (fun t kk_ => XS.aload X25.here hx rfl (hb hby at_244) rfl rfl kk_) ?_
  show OwnG p e below s _ _ _ (T25.setTop (mkF m 246 #[.val (.int va), .val (.int vb), .val (.int vc), .val (.int vd), .val (.int ve), .val (.int (0 : Int32)), .val (.int (1 : Int32)), .val (.int (1 : Int32)), .val (.int ds), .val (.int te), .val (.int pa), .val (.int pb), .val (.int qa), .val (.int qb), .val (.int qc), .val (.ref lk), .val (.ref sq), .val (.int (own_lt (own_c (own_set (0 : Int64) pa pb 0)) (0 : Int32))), .unset, .unset, .unset, .unset, .unset, .unset] [(.ref lk), (.int ds), (.int qc), (.int qb), (.int qa), (.ref sq)]))
  obtain ⟨_, _, ⟨T26, L26, k26, n26⟩, -, X26, ⟨Lc26, hQ26, l26, y26, z26⟩, st26⟩ := Jvm.LawKit.callS X25 hx (y := (⟨"com/example/score_on_crawl/scoreoncrawl/engine/BreadthFirstSequenceHasNextPinLaw", "fetchThree", "(Lcom/example/score_on_crawl/scoreoncrawl/engine/BreadthFirstSequence;ZZZZ[I)V"⟩ : MethodName)) hown (mvT hZ (hw _ (List.mem_of_getElem? (i := 62) rfl))) (mvT hZ (hw _ (List.mem_of_getElem? (i := 63) rfl))) (mvT hZ (hw _ (List.mem_of_getElem? (i := 46) rfl))) (mvT hZ (hw _ (List.mem_of_getElem? (i := 64) rfl))) (by decide) (backOf (W := 0) (rm10 l Z a0 hw [] sq fp bs wa lk (1 : Int32) (own_c (own_set (0 : Int64) pa pb 0)) u12 qa qb qc ds (own_set (0 : Int64) pa pb 0) T25.heap n0 sz25 ⟨S25.1, S25.2.1, S25.2.2.1, S25.2.2.2.1, ⟨S25.2.2.2.2.1, S25.2.2.2.2.2.1, ⟨S25.2.2.2.2.2.2.1, S25.2.2.2.2.2.2.2.1, S25.2.2.2.2.2.2.2.2.1, S25.2.2.2.2.2.2.2.2.2.1, S25.2.2.2.2.2.2.2.2.2.2⟩⟩⟩ Nn hu12 hm12 rfl) hZ (hw _ (List.mem_of_getElem? (i := 64) rfl)) (hw _ (List.mem_of_getElem? (i := 46) rfl)) (by decide) (by decide)) (g := (mkF m 246 #[.val (.int va), .val (.int vb), .val (.int vc), .val (.int vd), .val (.int ve), .val (.int (0 : Int32)), .val (.int (1 : Int32)), .val (.int (1 : Int32)), .val (.int ds), .val (.int te), .val (.int pa), .val (.int pb), .val (.int qa), .val (.int qb), .val (.int qc), .val (.ref lk), .val (.ref sq), .val (.int (own_lt (own_c (own_set (0 : Int64) pa pb 0)) (0 : Int32))), .unset, .unset, .unset, .unset, .unset, .unset] [(.ref lk), (.int ds), (.int qc), (.int qb), (.int qa), (.ref sq)])) rfl (by rw [hml]; rfl) (argsL := [(.ref sq), (.int qa), (.int qb), (.int qc), (.int ds), (.ref lk)]) (rest := []) (lenOf pd_8 rfl) rfl (by show 2 * 0 + _ ≤ _; exact Nat.le_of_eq rfl) (hb hby at_246) (fun _ _ => ⟨rfl, (rfl : T25.heap = T25.heap), (by decide : 0 + 1 + 1 + 3 + 0 ≤ _), (by decide : 0 + 3 + 5 + 0 ≤ _)⟩)
  dsimp only [Pt.U, Pt.locs, Pt.cells, Pt.slots] at X26 l26 y26 z26 st26 hQ26
  subst l26 y26 z26
  refine own_by (fun t kk_ => st26 _ kk_) ?_
  obtain ⟨rfl, N26q, u26, hm26, hu26, S26⟩ := hQ26
  have N26 := Fr.app N25 N26q
  have sz26 : n0 ≤ T26.heap.size := Nat.le_trans Nn.1 (Nat.le_of_lt (Exa.lt S26.1))
  show OwnG p e below s _ _ _ (T26.setTop (mkF m 249 #[.val (.int va), .val (.int vb), .val (.int vc), .val (.int vd), .val (.int ve), .val (.int (0 : Int32)), .val (.int (1 : Int32)), .val (.int (1 : Int32)), .val (.int ds), .val (.int te), .val (.int pa), .val (.int pb), .val (.int qa), .val (.int qb), .val (.int qc), .val (.ref lk), .val (.ref sq), .val (.int (own_lt (own_c (own_set (0 : Int64) pa pb 0)) (0 : Int32))), .unset, .unset, .unset, .unset, .unset, .unset] []))
  refine own_by (fun t kk_ => XS.aload X26.here hx rfl (hb hby at_249) rfl rfl kk_) ?_
  show OwnG p e below s _ _ _ (T26.setTop (mkF m 251 #[.val (.int va), .val (.int vb), .val (.int vc), .val (.int vd), .val (.int ve), .val (.int (0 : Int32)), .val (.int (1 : Int32)), .val (.int (1 : Int32)), .val (.int ds), .val (.int te), .val (.int pa), .val (.int pb), .val (.int qa), .val (.int qb), .val (.int qc), .val (.ref lk), .val (.ref sq), .val (.int (own_lt (own_c (own_set (0 : Int64) pa pb 0)) (0 : Int32))), .unset, .unset, .unset, .unset, .unset, .unset] [(.ref sq)]))
  obtain ⟨cq27, kq27, q27a, q27b, q27c⟩ := isOf hZ (rfl : T26.heap = T26.heap) S26.1
  obtain ⟨_, _, ⟨T27, L27, k27, n27⟩, -, X27, ⟨Lc27, hQ27, l27, y27, z27⟩, st27⟩ := X26.virtualBack hx (y := (⟨"com/example/score_on_crawl/scoreoncrawl/engine/BreadthFirstSequence", "hasNext", "()Z"⟩ : MethodName)) (z := (⟨"com/example/score_on_crawl/scoreoncrawl/engine/BreadthFirstSequence", "hasNext", "()Z"⟩ : MethodName)) hown (mvT hZ (hw _ (List.mem_of_getElem? (i := 48) rfl))) (mvT hZ (hw _ (List.mem_of_getElem? (i := 49) rfl))) (notFace_of_selects (args := #[]) (mvT hZ (hw _ (List.mem_of_getElem? (i := 51) rfl)))) (mvT hZ (hw _ (List.mem_of_getElem? (i := 51) rfl))) (mvT hZ (hw _ (List.mem_of_getElem? (i := 50) rfl))) (by decide) (backOf (W := 0) (rm8 l Z a0 hw [] sq fp bs wa (1 : Int32) (own_c (own_set (own_set (0 : Int64) pa pb 0) qa qb qc)) u26 (own_set (own_set (0 : Int64) pa pb 0) qa qb qc) T26.heap n0 sz26 ⟨S26.1, S26.2.1, S26.2.2.1, S26.2.2.2.1, ⟨S26.2.2.2.2.1, S26.2.2.2.2.2.1, ⟨S26.2.2.2.2.2.2.1, S26.2.2.2.2.2.2.2.1, S26.2.2.2.2.2.2.2.2.1, S26.2.2.2.2.2.2.2.2.2.1, S26.2.2.2.2.2.2.2.2.2.2⟩⟩⟩) hZ (hw _ (List.mem_of_getElem? (i := 52) rfl)) (hw _ (List.mem_of_getElem? (i := 4) rfl)) (by decide) (by decide)) q27a q27c (g := (mkF m 251 #[.val (.int va), .val (.int vb), .val (.int vc), .val (.int vd), .val (.int ve), .val (.int (0 : Int32)), .val (.int (1 : Int32)), .val (.int (1 : Int32)), .val (.int ds), .val (.int te), .val (.int pa), .val (.int pb), .val (.int qa), .val (.int qb), .val (.int qc), .val (.ref lk), .val (.ref sq), .val (.int (own_lt (own_c (own_set (0 : Int64) pa pb 0)) (0 : Int32))), .unset, .unset, .unset, .unset, .unset, .unset] [(.ref sq)])) rfl (by rw [hml]; rfl) (Steps.refl _) (argsL := []) (rest := []) (lenOf pd_7 rfl) rfl (by show 2 * 0 + _ ≤ _; exact Nat.le_of_eq rfl) (hb hby at_251) (fun _ _ => ⟨rfl, (rfl : T26.heap = T26.heap), (by decide : 0 + 1 + 1 + 3 + 0 ≤ _), (by decide : 0 + 3 + 5 + 0 ≤ _)⟩)
  dsimp only [Pt.U, Pt.locs, Pt.cells, Pt.slots] at X27 l27 y27 z27 st27 hQ27
  subst l27 y27 z27
  refine own_by (fun t kk_ => st27.trans kk_) ?_
  obtain ⟨rfl, N27q, hh27⟩ := hQ27
  have N27 := Fr.app N26 N27q
  have f28 := S26.1
  rw [← hh27] at f28
  have f29 := S26.2.1
  rw [← hh27] at f29
  have f30 := S26.2.2.1
  rw [← hh27] at f30
  have f31 := S26.2.2.2.1
  rw [← hh27] at f31
  have f32 := S26.2.2.2.2.1
  rw [← hh27] at f32
  have f33 := S26.2.2.2.2.2.1
  rw [← hh27] at f33
  have f34 := S26.2.2.2.2.2.2.1
  rw [← hh27] at f34
  have f35 := S26.2.2.2.2.2.2.2.1
  rw [← hh27] at f35
  have f36 := S26.2.2.2.2.2.2.2.2.1
  rw [← hh27] at f36
  have f37 := S26.2.2.2.2.2.2.2.2.2.1
  rw [← hh27] at f37
  have f38 := S26.2.2.2.2.2.2.2.2.2.2
  rw [← hh27] at f38
  have sz27 : n0 ≤ T27.heap.size := by rw [hh27]; exact sz26
  show OwnG p e below s _ _ _ (T27.setTop (mkF m 254 #[.val (.int va), .val (.int vb), .val (.int vc), .val (.int vd), .val (.int ve), .val (.int (0 : Int32)), .val (.int (1 : Int32)), .val (.int (1 : Int32)), .val (.int ds), .val (.int te), .val (.int pa), .val (.int pb), .val (.int qa), .val (.int qb), .val (.int qc), .val (.ref lk), .val (.ref sq), .val (.int (own_lt (own_c (own_set (0 : Int64) pa pb 0)) (0 : Int32))), .unset, .unset, .unset, .unset, .unset, .unset] [(.int (own_lt (own_c (own_set (own_set (0 : Int64) pa pb 0) qa qb qc)) (1 : Int32)))]))
  refine own_by (fun t kk_ => XS.istore X27.here hx rfl (hb hby at_254) rfl (l' := #[.val (.int va), .val (.int vb), .val (.int vc), .val (.int vd), .val (.int ve), .val (.int (0 : Int32)), .val (.int (1 : Int32)), .val (.int (1 : Int32)), .val (.int ds), .val (.int te), .val (.int pa), .val (.int pb), .val (.int qa), .val (.int qb), .val (.int qc), .val (.ref lk), .val (.ref sq), .val (.int (own_lt (own_c (own_set (0 : Int64) pa pb 0)) (0 : Int32))), .val (.int (own_lt (own_c (own_set (own_set (0 : Int64) pa pb 0) qa qb qc)) (1 : Int32))), .unset, .unset, .unset, .unset, .unset]) rfl kk_) ?_
  show OwnG p e below s _ _ _ (T27.setTop (mkF m 256 #[.val (.int va), .val (.int vb), .val (.int vc), .val (.int vd), .val (.int ve), .val (.int (0 : Int32)), .val (.int (1 : Int32)), .val (.int (1 : Int32)), .val (.int ds), .val (.int te), .val (.int pa), .val (.int pb), .val (.int qa), .val (.int qb), .val (.int qc), .val (.ref lk), .val (.ref sq), .val (.int (own_lt (own_c (own_set (0 : Int64) pa pb 0)) (0 : Int32))), .val (.int (own_lt (own_c (own_set (own_set (0 : Int64) pa pb 0) qa qb qc)) (1 : Int32))), .unset, .unset, .unset, .unset, .unset] []))
  exact own_t256 va vb vc vd ve (0 : Int32) (1 : Int32) (1 : Int32) ds te pa pb qa qb qc _ _ lk sq X27 hx hby hml hret hlk hown hnm hZ hw (rfl : T27.heap = T27.heap) N27 sz27 (own_h1 (Or.inl rfl) za zb) (own_h2 (Or.inr (Or.inl rfl)) za zb zc zd ze)
set_option maxRecDepth 65536 in
set_option maxHeartbeats 40000000 in
theorem own_m10 {p : Program} {l : Launch} {e : Env} {s : State} {m : MethodId} {args : Array Value} {below : List Frame} {meth : Method} {c : Code} {T0 : State} {locs : List Loc} {Z : State} {a0 : Array Value} {h0 : Heap} {n0 : Nat} (va vb vc vd ve ds te pa pb qa qb qc : Int32) (X0 : Stand p l e room_1 s m args below meth c T0 locs (0) (0)) (hx : p.tables.exec = Jvm.exec) (hby : c.code = code) (hml : c.maxLocals = 24) (hret : meth.sig.returnType = some .boolean) (hlk : meth.locks = false) (hown : s.vm.findClass "com/example/score_on_crawl/scoreoncrawl/engine/BreadthFirstSequenceHasNextPinLaw" = some m.cls) (hnm : meth.name = "law") (hZ : Z.Warmed39 s.vm) (hw : ∀ d ∈ tables_1, d.before a0 Z = true) (e0 : T0.heap = h0) (N0 : Fr n0 locs) (Z0 : n0 ≤ h0.size) (SA : Sta Z h0 "java/util/BitSet" "$assertionsDisabled" "Z" (.int (1 : Int32))) (za : own_z pa) (zb : own_z pb) (zc : own_z qa) (zd : own_z qb) (ze : own_z qc) :
    OwnG p e below s (fun v h L => v = some (.int (1 : Int32)) ∧ Fr n0 L) room_1.cells room_1.slots (T0.setTop (mkF m 151 #[.val (.int va), .val (.int vb), .val (.int vc), .val (.int vd), .val (.int ve), .val (.int (1 : Int32)), .val (.int (0 : Int32)), .val (.int (1 : Int32)), .val (.int ds), .val (.int te), .val (.int pa), .val (.int pb), .val (.int qa), .val (.int qb), .val (.int qc), .unset, .unset, .unset, .unset, .unset, .unset, .unset, .unset, .unset] [])) := by
  show OwnG p e below s _ _ _ (T0.setTop (mkF m 151 #[.val (.int va), .val (.int vb), .val (.int vc), .val (.int vd), .val (.int ve), .val (.int (1 : Int32)), .val (.int (0 : Int32)), .val (.int (1 : Int32)), .val (.int ds), .val (.int te), .val (.int pa), .val (.int pb), .val (.int qa), .val (.int qb), .val (.int qc), .unset, .unset, .unset, .unset, .unset, .unset, .unset, .unset, .unset] []))
  refine own_by (fun t kk_ => XS.iconst X0.here hx rfl (hb hby at_151) kk_) ?_
  show OwnG p e below s _ _ _ (T0.setTop (mkF m 152 #[.val (.int va), .val (.int vb), .val (.int vc), .val (.int vd), .val (.int ve), .val (.int (1 : Int32)), .val (.int (0 : Int32)), .val (.int (1 : Int32)), .val (.int ds), .val (.int te), .val (.int pa), .val (.int pb), .val (.int qa), .val (.int qb), .val (.int qc), .unset, .unset, .unset, .unset, .unset, .unset, .unset, .unset, .unset] [(.int (0 : Int32))]))
  obtain ⟨T1, h1, k1, X1, e1, E1, A1, st1⟩ := newP X0 hx hZ (hw _ (List.mem_of_getElem? (i := 1) rfl)) e0 (g := (mkF m 152 #[.val (.int va), .val (.int vb), .val (.int vc), .val (.int vd), .val (.int ve), .val (.int (1 : Int32)), .val (.int (0 : Int32)), .val (.int (1 : Int32)), .val (.int ds), .val (.int te), .val (.int pa), .val (.int pb), .val (.int qa), .val (.int qb), .val (.int qc), .unset, .unset, .unset, .unset, .unset, .unset, .unset, .unset, .unset] [(.int (0 : Int32))])) rfl (hb hby at_152) rfl (by decide) (cap := 0) (by decide) (by decide) (by decide) (by decide)
  obtain ⟨lk, g1⟩ : ∃ z, z = h0.size := ⟨_, rfl⟩
  rw [← g1] at A1 st1
  have gg_lk : n0 ≤ lk := by rw [g1]; exact Z0
  have sz1 : n0 ≤ h1.size := Nat.le_trans Z0 E1.1
  refine own_by (fun t kk_ => st1 _ kk_) ?_
  have f2 := Sta.ext E1 SA
  have f3 : OwnA Z h1 lk .int 0 (fun _ => (defaultValue .int)) := OwnA.new A1 (n := 0) (by decide) rfl
  show OwnG p e below s _ _ _ (T1.setTop (mkF m 154 #[.val (.int va), .val (.int vb), .val (.int vc), .val (.int vd), .val (.int ve), .val (.int (1 : Int32)), .val (.int (0 : Int32)), .val (.int (1 : Int32)), .val (.int ds), .val (.int te), .val (.int pa), .val (.int pb), .val (.int qa), .val (.int qb), .val (.int qc), .unset, .unset, .unset, .unset, .unset, .unset, .unset, .unset, .unset] [(.ref lk)]))
  refine own_by (fun t kk_ => XS.astore X1.here hx rfl (hb hby at_154) rfl rfl (l' := #[.val (.int va), .val (.int vb), .val (.int vc), .val (.int vd), .val (.int ve), .val (.int (1 : Int32)), .val (.int (0 : Int32)), .val (.int (1 : Int32)), .val (.int ds), .val (.int te), .val (.int pa), .val (.int pb), .val (.int qa), .val (.int qb), .val (.int qc), .val (.ref lk), .unset, .unset, .unset, .unset, .unset, .unset, .unset, .unset]) rfl kk_) ?_
  show OwnG p e below s _ _ _ (T1.setTop (mkF m 156 #[.val (.int va), .val (.int vb), .val (.int vc), .val (.int vd), .val (.int ve), .val (.int (1 : Int32)), .val (.int (0 : Int32)), .val (.int (1 : Int32)), .val (.int ds), .val (.int te), .val (.int pa), .val (.int pb), .val (.int qa), .val (.int qb), .val (.int qc), .val (.ref lk), .unset, .unset, .unset, .unset, .unset, .unset, .unset, .unset] []))
  obtain ⟨T4, h4, X4, e4, E4, A4, D4, -, st4⟩ := newO X1 hx hZ hown (hw _ (List.mem_of_getElem? (i := 2) rfl)) (hw _ (List.mem_of_getElem? (i := 3) rfl)) (hw _ (List.mem_of_getElem? (i := 4) rfl)) e1 (g := (mkF m 156 #[.val (.int va), .val (.int vb), .val (.int vc), .val (.int vd), .val (.int ve), .val (.int (1 : Int32)), .val (.int (0 : Int32)), .val (.int (1 : Int32)), .val (.int ds), .val (.int te), .val (.int pa), .val (.int pb), .val (.int qa), .val (.int qb), .val (.int qc), .val (.ref lk), .unset, .unset, .unset, .unset, .unset, .unset, .unset, .unset] [])) rfl (hb hby at_156) (by decide) (by decide)
  obtain ⟨sq, g4⟩ : ∃ z, z = h1.size := ⟨_, rfl⟩
  rw [← g4] at A4 D4 st4
  have ne5 : lk ≠ sq := fun q => absurd f3.lt (by rw [q, g4]; exact Nat.lt_irrefl _)
  have gg_sq : n0 ≤ sq := by rw [g4]; exact sz1
  have sz4 : n0 ≤ h4.size := Nat.le_trans sz1 E4.1
  refine own_by (fun t kk_ => st4 _ kk_) ?_
  have f6 := Sta.ext E4 f2
  have f7 := OwnA.ext E4 f3
  have f8 : Fld Z h4 sq "com/example/score_on_crawl/scoreoncrawl/engine/BreadthFirstSequence" "fetched" "Lcom/example/score_on_crawl/scoreoncrawl/engine/FetchedPages;" .null := D4 (Or.inr (hw _ (List.mem_of_getElem? (i := 43) rfl))) (ty := (.object "com/example/score_on_crawl/scoreoncrawl/engine/FetchedPages")) (by decide)
  have f9 : Fld Z h4 sq "com/example/score_on_crawl/scoreoncrawl/engine/BreadthFirstSequence" "cursor" "I" (.int (0 : Int32)) := D4 (Or.inl (hw _ (List.mem_of_getElem? (i := 54) rfl))) (ty := .int) (by decide)
  have f10 : Fld Z h4 sq "com/example/score_on_crawl/scoreoncrawl/engine/BreadthFirstSequence" "pages" "I" (.int (0 : Int32)) := D4 (Or.inl (hw _ (List.mem_of_getElem? (i := 56) rfl))) (ty := .int) (by decide)
  show OwnG p e below s _ _ _ (T4.setTop (mkF m 159 #[.val (.int va), .val (.int vb), .val (.int vc), .val (.int vd), .val (.int ve), .val (.int (1 : Int32)), .val (.int (0 : Int32)), .val (.int (1 : Int32)), .val (.int ds), .val (.int te), .val (.int pa), .val (.int pb), .val (.int qa), .val (.int qb), .val (.int qc), .val (.ref lk), .unset, .unset, .unset, .unset, .unset, .unset, .unset, .unset] [(.ref sq)]))
  refine own_by (fun t kk_ => XS.dup X4.here hx rfl (hb hby at_159) rfl rfl kk_) ?_
  show OwnG p e below s _ _ _ (T4.setTop (mkF m 160 #[.val (.int va), .val (.int vb), .val (.int vc), .val (.int vd), .val (.int ve), .val (.int (1 : Int32)), .val (.int (0 : Int32)), .val (.int (1 : Int32)), .val (.int ds), .val (.int te), .val (.int pa), .val (.int pb), .val (.int qa), .val (.int qb), .val (.int qc), .val (.ref lk), .unset, .unset, .unset, .unset, .unset, .unset, .unset, .unset] [(.ref sq), (.ref sq)]))
  obtain ⟨_, _, ⟨T11, L11, k11, n11⟩, -, X11, ⟨Lc11, hQ11, l11, y11, z11⟩, st11⟩ := X4.specialBack hx (y := (⟨"com/example/score_on_crawl/scoreoncrawl/engine/BreadthFirstSequence", "<init>", "()V"⟩ : MethodName)) rfl hown (mvT hZ (hw _ (List.mem_of_getElem? (i := 5) rfl))) (mvT hZ (hw _ (List.mem_of_getElem? (i := 6) rfl))) (mvT hZ (hw _ (List.mem_of_getElem? (i := 7) rfl))) (by decide) (backOf (W := 1) (rm1 l Z a0 hw [] sq h4 n0 sz4 A4 f8 f10 f9 f6 gg_sq) hZ (hw _ (List.mem_of_getElem? (i := 7) rfl)) (hw _ (List.mem_of_getElem? (i := 4) rfl)) (by decide) (by decide)) (g := (mkF m 160 #[.val (.int va), .val (.int vb), .val (.int vc), .val (.int vd), .val (.int ve), .val (.int (1 : Int32)), .val (.int (0 : Int32)), .val (.int (1 : Int32)), .val (.int ds), .val (.int te), .val (.int pa), .val (.int pb), .val (.int qa), .val (.int qb), .val (.int qc), .val (.ref lk), .unset, .unset, .unset, .unset, .unset, .unset, .unset, .unset] [(.ref sq), (.ref sq)])) rfl (by rw [hml]; rfl) (Steps.refl _) (a := sq) (argsL := []) (rest := [(.ref sq)]) (lenOf pd_2 rfl) rfl (by show 2 * 0 + _ ≤ _; exact Nat.le_of_eq rfl) (hb hby at_160) (fun _ _ => ⟨rfl, e4, (by decide : 0 + 1 + 1 + 3 ≤ _), (by decide : 0 + 3 + 5 ≤ _)⟩)
  dsimp only [Pt.U, Pt.locs, Pt.cells, Pt.slots] at X11 l11 y11 z11 st11 hQ11
  subst l11 y11 z11
  refine own_by (fun t kk_ => st11.trans kk_) ?_
  obtain ⟨rfl, N11q, fp, bs, wa, S11, Nn⟩ := hQ11
  have N11 := Fr.app N0 N11q
  have sz11 : n0 ≤ T11.heap.size := Nat.le_trans Nn.1 (Nat.le_of_lt (Exa.lt S11.1))
  show OwnG p e below s _ _ _ (T11.setTop (mkF m 163 #[.val (.int va), .val (.int vb), .val (.int vc), .val (.int vd), .val (.int ve), .val (.int (1 : Int32)), .val (.int (0 : Int32)), .val (.int (1 : Int32)), .val (.int ds), .val (.int te), .val (.int pa), .val (.int pb), .val (.int qa), .val (.int qb), .val (.int qc), .val (.ref lk), .unset, .unset, .unset, .unset, .unset, .unset, .unset, .unset] [(.ref sq)]))
  refine own_by (fun t kk_ => XS.astore X11.here hx rfl (hb hby at_163) rfl rfl (l' := #[.val (.int va), .val (.int vb), .val (.int vc), .val (.int vd), .val (.int ve), .val (.int (1 : Int32)), .val (.int (0 : Int32)), .val (.int (1 : Int32)), .val (.int ds), .val (.int te), .val (.int pa), .val (.int pb), .val (.int qa), .val (.int qb), .val (.int qc), .val (.ref lk), .val (.ref sq), .unset, .unset, .unset, .unset, .unset, .unset, .unset]) rfl kk_) ?_
  show OwnG p e below s _ _ _ (T11.setTop (mkF m 165 #[.val (.int va), .val (.int vb), .val (.int vc), .val (.int vd), .val (.int ve), .val (.int (1 : Int32)), .val (.int (0 : Int32)), .val (.int (1 : Int32)), .val (.int ds), .val (.int te), .val (.int pa), .val (.int pb), .val (.int qa), .val (.int qb), .val (.int qc), .val (.ref lk), .val (.ref sq), .unset, .unset, .unset, .unset, .unset, .unset, .unset] []))
  refine own_by (fun t kk_ => XS.iload X11.here hx rfl (hb hby at_165) rfl  kk_) ?_
  show OwnG p e below s _ _ _ (T11.setTop (mkF m 167 #[.val (.int va), .val (.int vb), .val (.int vc), .val (.int vd), .val (.int ve), .val (.int (1 : Int32)), .val (.int (0 : Int32)), .val (.int (1 : Int32)), .val (.int ds), .val (.int te), .val (.int pa), .val (.int pb), .val (.int qa), .val (.int qb), .val (.int qc), .val (.ref lk), .val (.ref sq), .unset, .unset, .unset, .unset, .unset, .unset, .unset] [(.int (1 : Int32))]))
  refine own_by (fun t kk_ => XS.ifNo X11.here hx rfl (hb hby at_167) rfl ((if0 _ _).trans (tlt (by decide)).2.2.2) kk_) ?_
  show OwnG p e below s _ _ _ (T11.setTop (mkF m 170 #[.val (.int va), .val (.int vb), .val (.int vc), .val (.int vd), .val (.int ve), .val (.int (1 : Int32)), .val (.int (0 : Int32)), .val (.int (1 : Int32)), .val (.int ds), .val (.int te), .val (.int pa), .val (.int pb), .val (.int qa), .val (.int qb), .val (.int qc), .val (.ref lk), .val (.ref sq), .unset, .unset, .unset, .unset, .unset, .unset, .unset] []))
  refine own_by (fun t kk_ => XS.aload X11.here hx rfl (hb hby at_170) rfl rfl kk_) ?_
  show OwnG p e below s _ _ _ (T11.setTop (mkF m 172 #[.val (.int va), .val (.int vb), .val (.int vc), .val (.int vd), .val (.int ve), .val (.int (1 : Int32)), .val (.int (0 : Int32)), .val (.int (1 : Int32)), .val (.int ds), .val (.int te), .val (.int pa), .val (.int pb), .val (.int qa), .val (.int qb), .val (.int qc), .val (.ref lk), .val (.ref sq), .unset, .unset, .unset, .unset, .unset, .unset, .unset] [(.ref sq)]))
  refine own_by (fun t kk_ => XS.iconst X11.here hx rfl (hb hby at_172) kk_) ?_
  show OwnG p e below s _ _ _ (T11.setTop (mkF m 173 #[.val (.int va), .val (.int vb), .val (.int vc), .val (.int vd), .val (.int ve), .val (.int (1 : Int32)), .val (.int (0 : Int32)), .val (.int (1 : Int32)), .val (.int ds), .val (.int te), .val (.int pa), .val (.int pb), .val (.int qa), .val (.int qb), .val (.int qc), .val (.ref lk), .val (.ref sq), .unset, .unset, .unset, .unset, .unset, .unset, .unset] [(.int (0 : Int32)), (.ref sq)]))
  refine own_by (fun t kk_ => XS.iload X11.here hx rfl (hb hby at_173) rfl  kk_) ?_
  show OwnG p e below s _ _ _ (T11.setTop (mkF m 175 #[.val (.int va), .val (.int vb), .val (.int vc), .val (.int vd), .val (.int ve), .val (.int (1 : Int32)), .val (.int (0 : Int32)), .val (.int (1 : Int32)), .val (.int ds), .val (.int te), .val (.int pa), .val (.int pb), .val (.int qa), .val (.int qb), .val (.int qc), .val (.ref lk), .val (.ref sq), .unset, .unset, .unset, .unset, .unset, .unset, .unset] [(.int te), (.int (0 : Int32)), (.ref sq)]))
  obtain ⟨cq12, kq12, q12a, q12b, q12c⟩ := isOf hZ (rfl : T11.heap = T11.heap) S11.1
  obtain ⟨_, _, ⟨T12, L12, k12, n12⟩, -, X12, ⟨Lc12, hQ12, l12, y12, z12⟩, st12⟩ := X11.virtualBack hx (y := (⟨"com/example/score_on_crawl/scoreoncrawl/engine/BreadthFirstSequence", "added", "(IZ)V"⟩ : MethodName)) (z := (⟨"com/example/score_on_crawl/scoreoncrawl/engine/BreadthFirstSequence", "added", "(IZ)V"⟩ : MethodName)) hown (mvT hZ (hw _ (List.mem_of_getElem? (i := 57) rfl))) (mvT hZ (hw _ (List.mem_of_getElem? (i := 58) rfl))) (notFace_of_selects (args := #[]) (mvT hZ (hw _ (List.mem_of_getElem? (i := 60) rfl)))) (mvT hZ (hw _ (List.mem_of_getElem? (i := 60) rfl))) (mvT hZ (hw _ (List.mem_of_getElem? (i := 59) rfl))) (by decide) (backOf (W := 0) (rm9 l Z a0 hw [] sq fp bs wa (0 : Int32) (0 : Int32) (0 : Int32) (0 : Int32) te (1 : Int32) (0 : Int64) T11.heap n0 sz11 ⟨S11.1, S11.2.1, S11.2.2.1, S11.2.2.2.1, ⟨S11.2.2.2.2.1, S11.2.2.2.2.2.1, ⟨S11.2.2.2.2.2.2.1, S11.2.2.2.2.2.2.2.1, S11.2.2.2.2.2.2.2.2.1, S11.2.2.2.2.2.2.2.2.2.1, S11.2.2.2.2.2.2.2.2.2.2⟩⟩⟩ Nn (by decide)) hZ (hw _ (List.mem_of_getElem? (i := 61) rfl)) (hw _ (List.mem_of_getElem? (i := 4) rfl)) (by decide) (by decide)) q12a q12c (g := (mkF m 175 #[.val (.int va), .val (.int vb), .val (.int vc), .val (.int vd), .val (.int ve), .val (.int (1 : Int32)), .val (.int (0 : Int32)), .val (.int (1 : Int32)), .val (.int ds), .val (.int te), .val (.int pa), .val (.int pb), .val (.int qa), .val (.int qb), .val (.int qc), .val (.ref lk), .val (.ref sq), .unset, .unset, .unset, .unset, .unset, .unset, .unset] [(.int te), (.int (0 : Int32)), (.ref sq)])) rfl (by rw [hml]; rfl) (Steps.refl _) (argsL := [(.int (0 : Int32)), (.int te)]) (rest := []) (lenOf pd_5 rfl) rfl (by show 2 * 0 + _ ≤ _; exact Nat.le_of_eq rfl) (hb hby at_175) (fun _ _ => ⟨rfl, (rfl : T11.heap = T11.heap), (by decide : 0 + 1 + 1 + 3 + 0 ≤ _), (by decide : 0 + 3 + 5 + 0 ≤ _)⟩)
  dsimp only [Pt.U, Pt.locs, Pt.cells, Pt.slots] at X12 l12 y12 z12 st12 hQ12
  subst l12 y12 z12
  refine own_by (fun t kk_ => st12.trans kk_) ?_
  obtain ⟨rfl, N12q, S12⟩ := hQ12
  have N12 := Fr.app N11 N12q
  have sz12 : n0 ≤ T12.heap.size := Nat.le_trans Nn.1 (Nat.le_of_lt (Exa.lt S12.1))
  show OwnG p e below s _ _ _ (T12.setTop (mkF m 178 #[.val (.int va), .val (.int vb), .val (.int vc), .val (.int vd), .val (.int ve), .val (.int (1 : Int32)), .val (.int (0 : Int32)), .val (.int (1 : Int32)), .val (.int ds), .val (.int te), .val (.int pa), .val (.int pb), .val (.int qa), .val (.int qb), .val (.int qc), .val (.ref lk), .val (.ref sq), .unset, .unset, .unset, .unset, .unset, .unset, .unset] []))
  refine own_by (fun t kk_ => XS.iload X12.here hx rfl (hb hby at_178) rfl  kk_) ?_
  show OwnG p e below s _ _ _ (T12.setTop (mkF m 180 #[.val (.int va), .val (.int vb), .val (.int vc), .val (.int vd), .val (.int ve), .val (.int (1 : Int32)), .val (.int (0 : Int32)), .val (.int (1 : Int32)), .val (.int ds), .val (.int te), .val (.int pa), .val (.int pb), .val (.int qa), .val (.int qb), .val (.int qc), .val (.ref lk), .val (.ref sq), .unset, .unset, .unset, .unset, .unset, .unset, .unset] [(.int (1 : Int32))]))
  refine own_by (fun t kk_ => XS.iconst X12.here hx rfl (hb hby at_180) kk_) ?_
  show OwnG p e below s _ _ _ (T12.setTop (mkF m 181 #[.val (.int va), .val (.int vb), .val (.int vc), .val (.int vd), .val (.int ve), .val (.int (1 : Int32)), .val (.int (0 : Int32)), .val (.int (1 : Int32)), .val (.int ds), .val (.int te), .val (.int pa), .val (.int pb), .val (.int qa), .val (.int qb), .val (.int qc), .val (.ref lk), .val (.ref sq), .unset, .unset, .unset, .unset, .unset, .unset, .unset] [(.int (1 : Int32)), (.int (1 : Int32))]))
  refine own_by (fun t kk_ => XS.icmpYes X12.here hx rfl (pc0 := 181) (pc' := 200) rfl (hb hby at_181) rfl (flt (by decide)).2.2.2 (by decide) (by decide) kk_) ?_
  show OwnG p e below s _ _ _ (T12.setTop (mkF m 200 #[.val (.int va), .val (.int vb), .val (.int vc), .val (.int vd), .val (.int ve), .val (.int (1 : Int32)), .val (.int (0 : Int32)), .val (.int (1 : Int32)), .val (.int ds), .val (.int te), .val (.int pa), .val (.int pb), .val (.int qa), .val (.int qb), .val (.int qc), .val (.ref lk), .val (.ref sq), .unset, .unset, .unset, .unset, .unset, .unset, .unset] []))
  refine own_by (fun t kk_ => XS.aload X12.here hx rfl (hb hby at_200) rfl rfl kk_) ?_
  show OwnG p e below s _ _ _ (T12.setTop (mkF m 202 #[.val (.int va), .val (.int vb), .val (.int vc), .val (.int vd), .val (.int ve), .val (.int (1 : Int32)), .val (.int (0 : Int32)), .val (.int (1 : Int32)), .val (.int ds), .val (.int te), .val (.int pa), .val (.int pb), .val (.int qa), .val (.int qb), .val (.int qc), .val (.ref lk), .val (.ref sq), .unset, .unset, .unset, .unset, .unset, .unset, .unset] [(.ref sq)]))
  refine own_by (fun t kk_ => XS.iload X12.here hx rfl (hb hby at_202) rfl  kk_) ?_
  show OwnG p e below s _ _ _ (T12.setTop (mkF m 204 #[.val (.int va), .val (.int vb), .val (.int vc), .val (.int vd), .val (.int ve), .val (.int (1 : Int32)), .val (.int (0 : Int32)), .val (.int (1 : Int32)), .val (.int ds), .val (.int te), .val (.int pa), .val (.int pb), .val (.int qa), .val (.int qb), .val (.int qc), .val (.ref lk), .val (.ref sq), .unset, .unset, .unset, .unset, .unset, .unset, .unset] [(.int pa), (.ref sq)]))
  refine own_by (fun t kk_ => XS.iload X12.here hx rfl (hb hby at_204) rfl  kk_) ?_
  show OwnG p e below s _ _ _ (T12.setTop (mkF m 206 #[.val (.int va), .val (.int vb), .val (.int vc), .val (.int vd), .val (.int ve), .val (.int (1 : Int32)), .val (.int (0 : Int32)), .val (.int (1 : Int32)), .val (.int ds), .val (.int te), .val (.int pa), .val (.int pb), .val (.int qa), .val (.int qb), .val (.int qc), .val (.ref lk), .val (.ref sq), .unset, .unset, .unset, .unset, .unset, .unset, .unset] [(.int pb), (.int pa), (.ref sq)]))
  refine own_by (fun t kk_ => XS.iload X12.here hx rfl (hb hby at_206) rfl  kk_) ?_
  show OwnG p e below s _ _ _ (T12.setTop (mkF m 208 #[.val (.int va), .val (.int vb), .val (.int vc), .val (.int vd), .val (.int ve), .val (.int (1 : Int32)), .val (.int (0 : Int32)), .val (.int (1 : Int32)), .val (.int ds), .val (.int te), .val (.int pa), .val (.int pb), .val (.int qa), .val (.int qb), .val (.int qc), .val (.ref lk), .val (.ref sq), .unset, .unset, .unset, .unset, .unset, .unset, .unset] [(.int ds), (.int pb), (.int pa), (.ref sq)]))
  refine own_by (fun t kk_ => XS.aload X12.here hx rfl (hb hby at_208) rfl rfl kk_) ?_
  show OwnG p e below s _ _ _ (T12.setTop (mkF m 210 #[.val (.int va), .val (.int vb), .val (.int vc), .val (.int vd), .val (.int ve), .val (.int (1 : Int32)), .val (.int (0 : Int32)), .val (.int (1 : Int32)), .val (.int ds), .val (.int te), .val (.int pa), .val (.int pb), .val (.int qa), .val (.int qb), .val (.int qc), .val (.ref lk), .val (.ref sq), .unset, .unset, .unset, .unset, .unset, .unset, .unset] [(.ref lk), (.int ds), (.int pb), (.int pa), (.ref sq)]))
  obtain ⟨_, _, ⟨T13, L13, k13, n13⟩, -, X13, ⟨Lc13, hQ13, l13, y13, z13⟩, st13⟩ := Jvm.LawKit.callS X12 hx (y := (⟨"com/example/score_on_crawl/scoreoncrawl/engine/BreadthFirstSequenceHasNextPinLaw", "fetchTwo", "(Lcom/example/score_on_crawl/scoreoncrawl/engine/BreadthFirstSequence;ZZZ[I)V"⟩ : MethodName)) hown (mvT hZ (hw _ (List.mem_of_getElem? (i := 44) rfl))) (mvT hZ (hw _ (List.mem_of_getElem? (i := 45) rfl))) (mvT hZ (hw _ (List.mem_of_getElem? (i := 46) rfl))) (mvT hZ (hw _ (List.mem_of_getElem? (i := 47) rfl))) (by decide) (backOf (W := 0) (rm7 l Z a0 hw [] sq fp bs wa lk (1 : Int32) (0 : Int32) (0 : Int32) pa pb ds (0 : Int64) T12.heap n0 sz12 ⟨S12.1, S12.2.1, S12.2.2.1, S12.2.2.2.1, ⟨S12.2.2.2.2.1, S12.2.2.2.2.2.1, ⟨S12.2.2.2.2.2.2.1, S12.2.2.2.2.2.2.2.1, S12.2.2.2.2.2.2.2.2.1, S12.2.2.2.2.2.2.2.2.2.1, S12.2.2.2.2.2.2.2.2.2.2⟩⟩⟩ Nn (Or.inl rfl) (Or.inl rfl) rfl) hZ (hw _ (List.mem_of_getElem? (i := 47) rfl)) (hw _ (List.mem_of_getElem? (i := 46) rfl)) (by decide) (by decide)) (g := (mkF m 210 #[.val (.int va), .val (.int vb), .val (.int vc), .val (.int vd), .val (.int ve), .val (.int (1 : Int32)), .val (.int (0 : Int32)), .val (.int (1 : Int32)), .val (.int ds), .val (.int te), .val (.int pa), .val (.int pb), .val (.int qa), .val (.int qb), .val (.int qc), .val (.ref lk), .val (.ref sq), .unset, .unset, .unset, .unset, .unset, .unset, .unset] [(.ref lk), (.int ds), (.int pb), (.int pa), (.ref sq)])) rfl (by rw [hml]; rfl) (argsL := [(.ref sq), (.int pa), (.int pb), (.int ds), (.ref lk)]) (rest := []) (lenOf pd_6 rfl) rfl (by show 2 * 0 + _ ≤ _; exact Nat.le_of_eq rfl) (hb hby at_210) (fun _ _ => ⟨rfl, (rfl : T12.heap = T12.heap), (by decide : 0 + 1 + 1 + 3 + 0 ≤ _), (by decide : 0 + 3 + 5 + 0 ≤ _)⟩)
  dsimp only [Pt.U, Pt.locs, Pt.cells, Pt.slots] at X13 l13 y13 z13 st13 hQ13
  subst l13 y13 z13
  refine own_by (fun t kk_ => st13 _ kk_) ?_
  obtain ⟨rfl, N13q, u13, hm13, hu13, S13⟩ := hQ13
  have N13 := Fr.app N12 N13q
  have sz13 : n0 ≤ T13.heap.size := Nat.le_trans Nn.1 (Nat.le_of_lt (Exa.lt S13.1))
  show OwnG p e below s _ _ _ (T13.setTop (mkF m 213 #[.val (.int va), .val (.int vb), .val (.int vc), .val (.int vd), .val (.int ve), .val (.int (1 : Int32)), .val (.int (0 : Int32)), .val (.int (1 : Int32)), .val (.int ds), .val (.int te), .val (.int pa), .val (.int pb), .val (.int qa), .val (.int qb), .val (.int qc), .val (.ref lk), .val (.ref sq), .unset, .unset, .unset, .unset, .unset, .unset, .unset] []))
  refine own_by (fun t kk_ => XS.aload X13.here hx rfl (hb hby at_213) rfl rfl kk_) ?_
  show OwnG p e below s _ _ _ (T13.setTop (mkF m 215 #[.val (.int va), .val (.int vb), .val (.int vc), .val (.int vd), .val (.int ve), .val (.int (1 : Int32)), .val (.int (0 : Int32)), .val (.int (1 : Int32)), .val (.int ds), .val (.int te), .val (.int pa), .val (.int pb), .val (.int qa), .val (.int qb), .val (.int qc), .val (.ref lk), .val (.ref sq), .unset, .unset, .unset, .unset, .unset, .unset, .unset] [(.ref sq)]))
  obtain ⟨cq14, kq14, q14a, q14b, q14c⟩ := isOf hZ (rfl : T13.heap = T13.heap) S13.1
  obtain ⟨_, _, ⟨T14, L14, k14, n14⟩, -, X14, ⟨Lc14, hQ14, l14, y14, z14⟩, st14⟩ := X13.virtualBack hx (y := (⟨"com/example/score_on_crawl/scoreoncrawl/engine/BreadthFirstSequence", "hasNext", "()Z"⟩ : MethodName)) (z := (⟨"com/example/score_on_crawl/scoreoncrawl/engine/BreadthFirstSequence", "hasNext", "()Z"⟩ : MethodName)) hown (mvT hZ (hw _ (List.mem_of_getElem? (i := 48) rfl))) (mvT hZ (hw _ (List.mem_of_getElem? (i := 49) rfl))) (notFace_of_selects (args := #[]) (mvT hZ (hw _ (List.mem_of_getElem? (i := 51) rfl)))) (mvT hZ (hw _ (List.mem_of_getElem? (i := 51) rfl))) (mvT hZ (hw _ (List.mem_of_getElem? (i := 50) rfl))) (by decide) (backOf (W := 0) (rm8 l Z a0 hw [] sq fp bs wa (1 : Int32) (own_c (own_set (0 : Int64) pa pb 0)) u13 (own_set (0 : Int64) pa pb 0) T13.heap n0 sz13 ⟨S13.1, S13.2.1, S13.2.2.1, S13.2.2.2.1, ⟨S13.2.2.2.2.1, S13.2.2.2.2.2.1, ⟨S13.2.2.2.2.2.2.1, S13.2.2.2.2.2.2.2.1, S13.2.2.2.2.2.2.2.2.1, S13.2.2.2.2.2.2.2.2.2.1, S13.2.2.2.2.2.2.2.2.2.2⟩⟩⟩) hZ (hw _ (List.mem_of_getElem? (i := 52) rfl)) (hw _ (List.mem_of_getElem? (i := 4) rfl)) (by decide) (by decide)) q14a q14c (g := (mkF m 215 #[.val (.int va), .val (.int vb), .val (.int vc), .val (.int vd), .val (.int ve), .val (.int (1 : Int32)), .val (.int (0 : Int32)), .val (.int (1 : Int32)), .val (.int ds), .val (.int te), .val (.int pa), .val (.int pb), .val (.int qa), .val (.int qb), .val (.int qc), .val (.ref lk), .val (.ref sq), .unset, .unset, .unset, .unset, .unset, .unset, .unset] [(.ref sq)])) rfl (by rw [hml]; rfl) (Steps.refl _) (argsL := []) (rest := []) (lenOf pd_7 rfl) rfl (by show 2 * 0 + _ ≤ _; exact Nat.le_of_eq rfl) (hb hby at_215) (fun _ _ => ⟨rfl, (rfl : T13.heap = T13.heap), (by decide : 0 + 1 + 1 + 3 + 0 ≤ _), (by decide : 0 + 3 + 5 + 0 ≤ _)⟩)
  dsimp only [Pt.U, Pt.locs, Pt.cells, Pt.slots] at X14 l14 y14 z14 st14 hQ14
  subst l14 y14 z14
  refine own_by (fun t kk_ => st14.trans kk_) ?_
  obtain ⟨rfl, N14q, hh14⟩ := hQ14
  have N14 := Fr.app N13 N14q
  have f15 := S13.1
  rw [← hh14] at f15
  have f16 := S13.2.1
  rw [← hh14] at f16
  have f17 := S13.2.2.1
  rw [← hh14] at f17
  have f18 := S13.2.2.2.1
  rw [← hh14] at f18
  have f19 := S13.2.2.2.2.1
  rw [← hh14] at f19
  have f20 := S13.2.2.2.2.2.1
  rw [← hh14] at f20
  have f21 := S13.2.2.2.2.2.2.1
  rw [← hh14] at f21
  have f22 := S13.2.2.2.2.2.2.2.1
  rw [← hh14] at f22
  have f23 := S13.2.2.2.2.2.2.2.2.1
  rw [← hh14] at f23
  have f24 := S13.2.2.2.2.2.2.2.2.2.1
  rw [← hh14] at f24
  have f25 := S13.2.2.2.2.2.2.2.2.2.2
  rw [← hh14] at f25
  have sz14 : n0 ≤ T14.heap.size := by rw [hh14]; exact sz13
  show OwnG p e below s _ _ _ (T14.setTop (mkF m 218 #[.val (.int va), .val (.int vb), .val (.int vc), .val (.int vd), .val (.int ve), .val (.int (1 : Int32)), .val (.int (0 : Int32)), .val (.int (1 : Int32)), .val (.int ds), .val (.int te), .val (.int pa), .val (.int pb), .val (.int qa), .val (.int qb), .val (.int qc), .val (.ref lk), .val (.ref sq), .unset, .unset, .unset, .unset, .unset, .unset, .unset] [(.int (own_lt (own_c (own_set (0 : Int64) pa pb 0)) (1 : Int32)))]))
  refine own_by (fun t kk_ => XS.istore X14.here hx rfl (hb hby at_218) rfl (l' := #[.val (.int va), .val (.int vb), .val (.int vc), .val (.int vd), .val (.int ve), .val (.int (1 : Int32)), .val (.int (0 : Int32)), .val (.int (1 : Int32)), .val (.int ds), .val (.int te), .val (.int pa), .val (.int pb), .val (.int qa), .val (.int qb), .val (.int qc), .val (.ref lk), .val (.ref sq), .val (.int (own_lt (own_c (own_set (0 : Int64) pa pb 0)) (1 : Int32))), .unset, .unset, .unset, .unset, .unset, .unset]) rfl kk_) ?_
  show OwnG p e below s _ _ _ (T14.setTop (mkF m 220 #[.val (.int va), .val (.int vb), .val (.int vc), .val (.int vd), .val (.int ve), .val (.int (1 : Int32)), .val (.int (0 : Int32)), .val (.int (1 : Int32)), .val (.int ds), .val (.int te), .val (.int pa), .val (.int pb), .val (.int qa), .val (.int qb), .val (.int qc), .val (.ref lk), .val (.ref sq), .val (.int (own_lt (own_c (own_set (0 : Int64) pa pb 0)) (1 : Int32))), .unset, .unset, .unset, .unset, .unset, .unset] []))
  refine own_by (fun t kk_ => XS.iload X14.here hx rfl (hb hby at_220) rfl  kk_) ?_
  show OwnG p e below s _ _ _ (T14.setTop (mkF m 222 #[.val (.int va), .val (.int vb), .val (.int vc), .val (.int vd), .val (.int ve), .val (.int (1 : Int32)), .val (.int (0 : Int32)), .val (.int (1 : Int32)), .val (.int ds), .val (.int te), .val (.int pa), .val (.int pb), .val (.int qa), .val (.int qb), .val (.int qc), .val (.ref lk), .val (.ref sq), .val (.int (own_lt (own_c (own_set (0 : Int64) pa pb 0)) (1 : Int32))), .unset, .unset, .unset, .unset, .unset, .unset] [(.int (0 : Int32))]))
  refine own_by (fun t kk_ => XS.ifYes X14.here hx rfl (pc0 := 222) (pc' := 234) rfl (hb hby at_222) rfl ((if0 _ _).trans (flt (by decide)).2.2.2) (by decide) (by decide) kk_) ?_
  show OwnG p e below s _ _ _ (T14.setTop (mkF m 234 #[.val (.int va), .val (.int vb), .val (.int vc), .val (.int vd), .val (.int ve), .val (.int (1 : Int32)), .val (.int (0 : Int32)), .val (.int (1 : Int32)), .val (.int ds), .val (.int te), .val (.int pa), .val (.int pb), .val (.int qa), .val (.int qb), .val (.int qc), .val (.ref lk), .val (.ref sq), .val (.int (own_lt (own_c (own_set (0 : Int64) pa pb 0)) (1 : Int32))), .unset, .unset, .unset, .unset, .unset, .unset] []))
  refine own_by (fun t kk_ => XS.aload X14.here hx rfl (hb hby at_234) rfl rfl kk_) ?_
  show OwnG p e below s _ _ _ (T14.setTop (mkF m 236 #[.val (.int va), .val (.int vb), .val (.int vc), .val (.int vd), .val (.int ve), .val (.int (1 : Int32)), .val (.int (0 : Int32)), .val (.int (1 : Int32)), .val (.int ds), .val (.int te), .val (.int pa), .val (.int pb), .val (.int qa), .val (.int qb), .val (.int qc), .val (.ref lk), .val (.ref sq), .val (.int (own_lt (own_c (own_set (0 : Int64) pa pb 0)) (1 : Int32))), .unset, .unset, .unset, .unset, .unset, .unset] [(.ref sq)]))
  refine own_by (fun t kk_ => XS.iload X14.here hx rfl (hb hby at_236) rfl  kk_) ?_
  show OwnG p e below s _ _ _ (T14.setTop (mkF m 238 #[.val (.int va), .val (.int vb), .val (.int vc), .val (.int vd), .val (.int ve), .val (.int (1 : Int32)), .val (.int (0 : Int32)), .val (.int (1 : Int32)), .val (.int ds), .val (.int te), .val (.int pa), .val (.int pb), .val (.int qa), .val (.int qb), .val (.int qc), .val (.ref lk), .val (.ref sq), .val (.int (own_lt (own_c (own_set (0 : Int64) pa pb 0)) (1 : Int32))), .unset, .unset, .unset, .unset, .unset, .unset] [(.int qa), (.ref sq)]))
  refine own_by (fun t kk_ => XS.iload X14.here hx rfl (hb hby at_238) rfl  kk_) ?_
  show OwnG p e below s _ _ _ (T14.setTop (mkF m 240 #[.val (.int va), .val (.int vb), .val (.int vc), .val (.int vd), .val (.int ve), .val (.int (1 : Int32)), .val (.int (0 : Int32)), .val (.int (1 : Int32)), .val (.int ds), .val (.int te), .val (.int pa), .val (.int pb), .val (.int qa), .val (.int qb), .val (.int qc), .val (.ref lk), .val (.ref sq), .val (.int (own_lt (own_c (own_set (0 : Int64) pa pb 0)) (1 : Int32))), .unset, .unset, .unset, .unset, .unset, .unset] [(.int qb), (.int qa), (.ref sq)]))
  refine own_by (fun t kk_ => XS.iload X14.here hx rfl (hb hby at_240) rfl  kk_) ?_
  show OwnG p e below s _ _ _ (T14.setTop (mkF m 242 #[.val (.int va), .val (.int vb), .val (.int vc), .val (.int vd), .val (.int ve), .val (.int (1 : Int32)), .val (.int (0 : Int32)), .val (.int (1 : Int32)), .val (.int ds), .val (.int te), .val (.int pa), .val (.int pb), .val (.int qa), .val (.int qb), .val (.int qc), .val (.ref lk), .val (.ref sq), .val (.int (own_lt (own_c (own_set (0 : Int64) pa pb 0)) (1 : Int32))), .unset, .unset, .unset, .unset, .unset, .unset] [(.int qc), (.int qb), (.int qa), (.ref sq)]))
  refine own_by (fun t kk_ => XS.iload X14.here hx rfl (hb hby at_242) rfl  kk_) ?_
  show OwnG p e below s _ _ _ (T14.setTop (mkF m 244 #[.val (.int va), .val (.int vb), .val (.int vc), .val (.int vd), .val (.int ve), .val (.int (1 : Int32)), .val (.int (0 : Int32)), .val (.int (1 : Int32)), .val (.int ds), .val (.int te), .val (.int pa), .val (.int pb), .val (.int qa), .val (.int qb), .val (.int qc), .val (.ref lk), .val (.ref sq), .val (.int (own_lt (own_c (own_set (0 : Int64) pa pb 0)) (1 : Int32))), .unset, .unset, .unset, .unset, .unset, .unset] [(.int ds), (.int qc), (.int qb), (.int qa), (.ref sq)]))
  refine own_by (fun t kk_ => XS.aload X14.here hx rfl (hb hby at_244) rfl rfl kk_) ?_
  show OwnG p e below s _ _ _ (T14.setTop (mkF m 246 #[.val (.int va), .val (.int vb), .val (.int vc), .val (.int vd), .val (.int ve), .val (.int (1 : Int32)), .val (.int (0 : Int32)), .val (.int (1 : Int32)), .val (.int ds), .val (.int te), .val (.int pa), .val (.int pb), .val (.int qa), .val (.int qb), .val (.int qc), .val (.ref lk), .val (.ref sq), .val (.int (own_lt (own_c (own_set (0 : Int64) pa pb 0)) (1 : Int32))), .unset, .unset, .unset, .unset, .unset, .unset] [(.ref lk), (.int ds), (.int qc), (.int qb), (.int qa), (.ref sq)]))
  obtain ⟨_, _, ⟨T26, L26, k26, n26⟩, -, X26, ⟨Lc26, hQ26, l26, y26, z26⟩, st26⟩ := Jvm.LawKit.callS X14 hx (y := (⟨"com/example/score_on_crawl/scoreoncrawl/engine/BreadthFirstSequenceHasNextPinLaw", "fetchThree", "(Lcom/example/score_on_crawl/scoreoncrawl/engine/BreadthFirstSequence;ZZZZ[I)V"⟩ : MethodName)) hown (mvT hZ (hw _ (List.mem_of_getElem? (i := 62) rfl))) (mvT hZ (hw _ (List.mem_of_getElem? (i := 63) rfl))) (mvT hZ (hw _ (List.mem_of_getElem? (i := 46) rfl))) (mvT hZ (hw _ (List.mem_of_getElem? (i := 64) rfl))) (by decide) (backOf (W := 0) (rm10 l Z a0 hw [] sq fp bs wa lk (1 : Int32) (own_c (own_set (0 : Int64) pa pb 0)) u13 qa qb qc ds (own_set (0 : Int64) pa pb 0) T14.heap n0 sz14 ⟨f15, f16, f17, f18, ⟨f19, f20, ⟨f21, f22, f23, f24, f25⟩⟩⟩ Nn hu13 hm13 rfl) hZ (hw _ (List.mem_of_getElem? (i := 64) rfl)) (hw _ (List.mem_of_getElem? (i := 46) rfl)) (by decide) (by decide)) (g := (mkF m 246 #[.val (.int va), .val (.int vb), .val (.int vc), .val (.int vd), .val (.int ve), .val (.int (1 : Int32)), .val (.int (0 : Int32)), .val (.int (1 : Int32)), .val (.int ds), .val (.int te), .val (.int pa), .val (.int pb), .val (.int qa), .val (.int qb), .val (.int qc), .val (.ref lk), .val (.ref sq), .val (.int (own_lt (own_c (own_set (0 : Int64) pa pb 0)) (1 : Int32))), .unset, .unset, .unset, .unset, .unset, .unset] [(.ref lk), (.int ds), (.int qc), (.int qb), (.int qa), (.ref sq)])) rfl (by rw [hml]; rfl) (argsL := [(.ref sq), (.int qa), (.int qb), (.int qc), (.int ds), (.ref lk)]) (rest := []) (lenOf pd_8 rfl) rfl (by show 2 * 0 + _ ≤ _; exact Nat.le_of_eq rfl) (hb hby at_246) (fun _ _ => ⟨rfl, (rfl : T14.heap = T14.heap), (by decide : 0 + 1 + 1 + 3 + 0 ≤ _), (by decide : 0 + 3 + 5 + 0 ≤ _)⟩)
  dsimp only [Pt.U, Pt.locs, Pt.cells, Pt.slots] at X26 l26 y26 z26 st26 hQ26
  subst l26 y26 z26
  refine own_by (fun t kk_ => st26 _ kk_) ?_
  obtain ⟨rfl, N26q, u26, hm26, hu26, S26⟩ := hQ26
  have N26 := Fr.app N14 N26q
  have sz26 : n0 ≤ T26.heap.size := Nat.le_trans Nn.1 (Nat.le_of_lt (Exa.lt S26.1))
  show OwnG p e below s _ _ _ (T26.setTop (mkF m 249 #[.val (.int va), .val (.int vb), .val (.int vc), .val (.int vd), .val (.int ve), .val (.int (1 : Int32)), .val (.int (0 : Int32)), .val (.int (1 : Int32)), .val (.int ds), .val (.int te), .val (.int pa), .val (.int pb), .val (.int qa), .val (.int qb), .val (.int qc), .val (.ref lk), .val (.ref sq), .val (.int (own_lt (own_c (own_set (0 : Int64) pa pb 0)) (1 : Int32))), .unset, .unset, .unset, .unset, .unset, .unset] []))
  refine own_by (fun t kk_ => XS.aload X26.here hx rfl (hb hby at_249) rfl rfl kk_) ?_
  show OwnG p e below s _ _ _ (T26.setTop (mkF m 251 #[.val (.int va), .val (.int vb), .val (.int vc), .val (.int vd), .val (.int ve), .val (.int (1 : Int32)), .val (.int (0 : Int32)), .val (.int (1 : Int32)), .val (.int ds), .val (.int te), .val (.int pa), .val (.int pb), .val (.int qa), .val (.int qb), .val (.int qc), .val (.ref lk), .val (.ref sq), .val (.int (own_lt (own_c (own_set (0 : Int64) pa pb 0)) (1 : Int32))), .unset, .unset, .unset, .unset, .unset, .unset] [(.ref sq)]))
  obtain ⟨cq27, kq27, q27a, q27b, q27c⟩ := isOf hZ (rfl : T26.heap = T26.heap) S26.1
  obtain ⟨_, _, ⟨T27, L27, k27, n27⟩, -, X27, ⟨Lc27, hQ27, l27, y27, z27⟩, st27⟩ := X26.virtualBack hx (y := (⟨"com/example/score_on_crawl/scoreoncrawl/engine/BreadthFirstSequence", "hasNext", "()Z"⟩ : MethodName)) (z := (⟨"com/example/score_on_crawl/scoreoncrawl/engine/BreadthFirstSequence", "hasNext", "()Z"⟩ : MethodName)) hown (mvT hZ (hw _ (List.mem_of_getElem? (i := 48) rfl))) (mvT hZ (hw _ (List.mem_of_getElem? (i := 49) rfl))) (notFace_of_selects (args := #[]) (mvT hZ (hw _ (List.mem_of_getElem? (i := 51) rfl)))) (mvT hZ (hw _ (List.mem_of_getElem? (i := 51) rfl))) (mvT hZ (hw _ (List.mem_of_getElem? (i := 50) rfl))) (by decide) (backOf (W := 0) (rm8 l Z a0 hw [] sq fp bs wa (1 : Int32) (own_c (own_set (own_set (0 : Int64) pa pb 0) qa qb qc)) u26 (own_set (own_set (0 : Int64) pa pb 0) qa qb qc) T26.heap n0 sz26 ⟨S26.1, S26.2.1, S26.2.2.1, S26.2.2.2.1, ⟨S26.2.2.2.2.1, S26.2.2.2.2.2.1, ⟨S26.2.2.2.2.2.2.1, S26.2.2.2.2.2.2.2.1, S26.2.2.2.2.2.2.2.2.1, S26.2.2.2.2.2.2.2.2.2.1, S26.2.2.2.2.2.2.2.2.2.2⟩⟩⟩) hZ (hw _ (List.mem_of_getElem? (i := 52) rfl)) (hw _ (List.mem_of_getElem? (i := 4) rfl)) (by decide) (by decide)) q27a q27c (g := (mkF m 251 #[.val (.int va), .val (.int vb), .val (.int vc), .val (.int vd), .val (.int ve), .val (.int (1 : Int32)), .val (.int (0 : Int32)), .val (.int (1 : Int32)), .val (.int ds), .val (.int te), .val (.int pa), .val (.int pb), .val (.int qa), .val (.int qb), .val (.int qc), .val (.ref lk), .val (.ref sq), .val (.int (own_lt (own_c (own_set (0 : Int64) pa pb 0)) (1 : Int32))), .unset, .unset, .unset, .unset, .unset, .unset] [(.ref sq)])) rfl (by rw [hml]; rfl) (Steps.refl _) (argsL := []) (rest := []) (lenOf pd_7 rfl) rfl (by show 2 * 0 + _ ≤ _; exact Nat.le_of_eq rfl) (hb hby at_251) (fun _ _ => ⟨rfl, (rfl : T26.heap = T26.heap), (by decide : 0 + 1 + 1 + 3 + 0 ≤ _), (by decide : 0 + 3 + 5 + 0 ≤ _)⟩)
  dsimp only [Pt.U, Pt.locs, Pt.cells, Pt.slots] at X27 l27 y27 z27 st27 hQ27
  subst l27 y27 z27
  refine own_by (fun t kk_ => st27.trans kk_) ?_
  obtain ⟨rfl, N27q, hh27⟩ := hQ27
  have N27 := Fr.app N26 N27q
  have f28 := S26.1
  rw [← hh27] at f28
  have f29 := S26.2.1
  rw [← hh27] at f29
  have f30 := S26.2.2.1
  rw [← hh27] at f30
  have f31 := S26.2.2.2.1
  rw [← hh27] at f31
  have f32 := S26.2.2.2.2.1
  rw [← hh27] at f32
  have f33 := S26.2.2.2.2.2.1
  rw [← hh27] at f33
  have f34 := S26.2.2.2.2.2.2.1
  rw [← hh27] at f34
  have f35 := S26.2.2.2.2.2.2.2.1
  rw [← hh27] at f35
  have f36 := S26.2.2.2.2.2.2.2.2.1
  rw [← hh27] at f36
  have f37 := S26.2.2.2.2.2.2.2.2.2.1
  rw [← hh27] at f37
  have f38 := S26.2.2.2.2.2.2.2.2.2.2
  rw [← hh27] at f38
  have sz27 : n0 ≤ T27.heap.size := by rw [hh27]; exact sz26
  show OwnG p e below s _ _ _ (T27.setTop (mkF m 254 #[.val (.int va), .val (.int vb), .val (.int vc), .val (.int vd), .val (.int ve), .val (.int (1 : Int32)), .val (.int (0 : Int32)), .val (.int (1 : Int32)), .val (.int ds), .val (.int te), .val (.int pa), .val (.int pb), .val (.int qa), .val (.int qb), .val (.int qc), .val (.ref lk), .val (.ref sq), .val (.int (own_lt (own_c (own_set (0 : Int64) pa pb 0)) (1 : Int32))), .unset, .unset, .unset, .unset, .unset, .unset] [(.int (own_lt (own_c (own_set (own_set (0 : Int64) pa pb 0) qa qb qc)) (1 : Int32)))]))
  refine own_by (fun t kk_ => XS.istore X27.here hx rfl (hb hby at_254) rfl (l' := #[.val (.int va), .val (.int vb), .val (.int vc), .val (.int vd), .val (.int ve), .val (.int (1 : Int32)), .val (.int (0 : Int32)), .val (.int (1 : Int32)), .val (.int ds), .val (.int te), .val (.int pa), .val (.int pb), .val (.int qa), .val (.int qb), .val (.int qc), .val (.ref lk), .val (.ref sq), .val (.int (own_lt (own_c (own_set (0 : Int64) pa pb 0)) (1 : Int32))), .val (.int (own_lt (own_c (own_set (own_set (0 : Int64) pa pb 0) qa qb qc)) (1 : Int32))), .unset, .unset, .unset, .unset, .unset]) rfl kk_) ?_
  show OwnG p e below s _ _ _ (T27.setTop (mkF m 256 #[.val (.int va), .val (.int vb), .val (.int vc), .val (.int vd), .val (.int ve), .val (.int (1 : Int32)), .val (.int (0 : Int32)), .val (.int (1 : Int32)), .val (.int ds), .val (.int te), .val (.int pa), .val (.int pb), .val (.int qa), .val (.int qb), .val (.int qc), .val (.ref lk), .val (.ref sq), .val (.int (own_lt (own_c (own_set (0 : Int64) pa pb 0)) (1 : Int32))), .val (.int (own_lt (own_c (own_set (own_set (0 : Int64) pa pb 0) qa qb qc)) (1 : Int32))), .unset, .unset, .unset, .unset, .unset] []))
  exact own_t256 va vb vc vd ve (1 : Int32) (0 : Int32) (1 : Int32) ds te pa pb qa qb qc _ _ lk sq X27 hx hby hml hret hlk hown hnm hZ hw (rfl : T27.heap = T27.heap) N27 sz27 (own_h1 (Or.inr (Or.inl rfl)) za zb) (own_h2 (Or.inr (Or.inl rfl)) za zb zc zd ze)
set_option maxRecDepth 65536 in
set_option maxHeartbeats 40000000 in
theorem own_m11 {p : Program} {l : Launch} {e : Env} {s : State} {m : MethodId} {args : Array Value} {below : List Frame} {meth : Method} {c : Code} {T0 : State} {locs : List Loc} {Z : State} {a0 : Array Value} {h0 : Heap} {n0 : Nat} (va vb vc vd ve ds te pa pb qa qb qc : Int32) (X0 : Stand p l e room_1 s m args below meth c T0 locs (0) (0)) (hx : p.tables.exec = Jvm.exec) (hby : c.code = code) (hml : c.maxLocals = 24) (hret : meth.sig.returnType = some .boolean) (hlk : meth.locks = false) (hown : s.vm.findClass "com/example/score_on_crawl/scoreoncrawl/engine/BreadthFirstSequenceHasNextPinLaw" = some m.cls) (hnm : meth.name = "law") (hZ : Z.Warmed39 s.vm) (hw : ∀ d ∈ tables_1, d.before a0 Z = true) (e0 : T0.heap = h0) (N0 : Fr n0 locs) (Z0 : n0 ≤ h0.size) (SA : Sta Z h0 "java/util/BitSet" "$assertionsDisabled" "Z" (.int (1 : Int32))) (za : own_z pa) (zb : own_z pb) (zc : own_z qa) (zd : own_z qb) (ze : own_z qc) :
    OwnG p e below s (fun v h L => v = some (.int (1 : Int32)) ∧ Fr n0 L) room_1.cells room_1.slots (T0.setTop (mkF m 151 #[.val (.int va), .val (.int vb), .val (.int vc), .val (.int vd), .val (.int ve), .val (.int (1 : Int32)), .val (.int (1 : Int32)), .val (.int (2 : Int32)), .val (.int ds), .val (.int te), .val (.int pa), .val (.int pb), .val (.int qa), .val (.int qb), .val (.int qc), .unset, .unset, .unset, .unset, .unset, .unset, .unset, .unset, .unset] [])) := by
  show OwnG p e below s _ _ _ (T0.setTop (mkF m 151 #[.val (.int va), .val (.int vb), .val (.int vc), .val (.int vd), .val (.int ve), .val (.int (1 : Int32)), .val (.int (1 : Int32)), .val (.int (2 : Int32)), .val (.int ds), .val (.int te), .val (.int pa), .val (.int pb), .val (.int qa), .val (.int qb), .val (.int qc), .unset, .unset, .unset, .unset, .unset, .unset, .unset, .unset, .unset] []))
  refine own_by (fun t kk_ => XS.iconst X0.here hx rfl (hb hby at_151) kk_) ?_
  show OwnG p e below s _ _ _ (T0.setTop (mkF m 152 #[.val (.int va), .val (.int vb), .val (.int vc), .val (.int vd), .val (.int ve), .val (.int (1 : Int32)), .val (.int (1 : Int32)), .val (.int (2 : Int32)), .val (.int ds), .val (.int te), .val (.int pa), .val (.int pb), .val (.int qa), .val (.int qb), .val (.int qc), .unset, .unset, .unset, .unset, .unset, .unset, .unset, .unset, .unset] [(.int (0 : Int32))]))
  obtain ⟨T1, h1, k1, X1, e1, E1, A1, st1⟩ := newP X0 hx hZ (hw _ (List.mem_of_getElem? (i := 1) rfl)) e0 (g := (mkF m 152 #[.val (.int va), .val (.int vb), .val (.int vc), .val (.int vd), .val (.int ve), .val (.int (1 : Int32)), .val (.int (1 : Int32)), .val (.int (2 : Int32)), .val (.int ds), .val (.int te), .val (.int pa), .val (.int pb), .val (.int qa), .val (.int qb), .val (.int qc), .unset, .unset, .unset, .unset, .unset, .unset, .unset, .unset, .unset] [(.int (0 : Int32))])) rfl (hb hby at_152) rfl (by decide) (cap := 0) (by decide) (by decide) (by decide) (by decide)
  obtain ⟨lk, g1⟩ : ∃ z, z = h0.size := ⟨_, rfl⟩
  rw [← g1] at A1 st1
  have gg_lk : n0 ≤ lk := by rw [g1]; exact Z0
  have sz1 : n0 ≤ h1.size := Nat.le_trans Z0 E1.1
  refine own_by (fun t kk_ => st1 _ kk_) ?_
  have f2 := Sta.ext E1 SA
  have f3 : OwnA Z h1 lk .int 0 (fun _ => (defaultValue .int)) := OwnA.new A1 (n := 0) (by decide) rfl
  show OwnG p e below s _ _ _ (T1.setTop (mkF m 154 #[.val (.int va), .val (.int vb), .val (.int vc), .val (.int vd), .val (.int ve), .val (.int (1 : Int32)), .val (.int (1 : Int32)), .val (.int (2 : Int32)), .val (.int ds), .val (.int te), .val (.int pa), .val (.int pb), .val (.int qa), .val (.int qb), .val (.int qc), .unset, .unset, .unset, .unset, .unset, .unset, .unset, .unset, .unset] [(.ref lk)]))
  refine own_by (fun t kk_ => XS.astore X1.here hx rfl (hb hby at_154) rfl rfl (l' := #[.val (.int va), .val (.int vb), .val (.int vc), .val (.int vd), .val (.int ve), .val (.int (1 : Int32)), .val (.int (1 : Int32)), .val (.int (2 : Int32)), .val (.int ds), .val (.int te), .val (.int pa), .val (.int pb), .val (.int qa), .val (.int qb), .val (.int qc), .val (.ref lk), .unset, .unset, .unset, .unset, .unset, .unset, .unset, .unset]) rfl kk_) ?_
  show OwnG p e below s _ _ _ (T1.setTop (mkF m 156 #[.val (.int va), .val (.int vb), .val (.int vc), .val (.int vd), .val (.int ve), .val (.int (1 : Int32)), .val (.int (1 : Int32)), .val (.int (2 : Int32)), .val (.int ds), .val (.int te), .val (.int pa), .val (.int pb), .val (.int qa), .val (.int qb), .val (.int qc), .val (.ref lk), .unset, .unset, .unset, .unset, .unset, .unset, .unset, .unset] []))
  obtain ⟨T4, h4, X4, e4, E4, A4, D4, -, st4⟩ := newO X1 hx hZ hown (hw _ (List.mem_of_getElem? (i := 2) rfl)) (hw _ (List.mem_of_getElem? (i := 3) rfl)) (hw _ (List.mem_of_getElem? (i := 4) rfl)) e1 (g := (mkF m 156 #[.val (.int va), .val (.int vb), .val (.int vc), .val (.int vd), .val (.int ve), .val (.int (1 : Int32)), .val (.int (1 : Int32)), .val (.int (2 : Int32)), .val (.int ds), .val (.int te), .val (.int pa), .val (.int pb), .val (.int qa), .val (.int qb), .val (.int qc), .val (.ref lk), .unset, .unset, .unset, .unset, .unset, .unset, .unset, .unset] [])) rfl (hb hby at_156) (by decide) (by decide)
  obtain ⟨sq, g4⟩ : ∃ z, z = h1.size := ⟨_, rfl⟩
  rw [← g4] at A4 D4 st4
  have ne5 : lk ≠ sq := fun q => absurd f3.lt (by rw [q, g4]; exact Nat.lt_irrefl _)
  have gg_sq : n0 ≤ sq := by rw [g4]; exact sz1
  have sz4 : n0 ≤ h4.size := Nat.le_trans sz1 E4.1
  refine own_by (fun t kk_ => st4 _ kk_) ?_
  have f6 := Sta.ext E4 f2
  have f7 := OwnA.ext E4 f3
  have f8 : Fld Z h4 sq "com/example/score_on_crawl/scoreoncrawl/engine/BreadthFirstSequence" "fetched" "Lcom/example/score_on_crawl/scoreoncrawl/engine/FetchedPages;" .null := D4 (Or.inr (hw _ (List.mem_of_getElem? (i := 43) rfl))) (ty := (.object "com/example/score_on_crawl/scoreoncrawl/engine/FetchedPages")) (by decide)
  have f9 : Fld Z h4 sq "com/example/score_on_crawl/scoreoncrawl/engine/BreadthFirstSequence" "cursor" "I" (.int (0 : Int32)) := D4 (Or.inl (hw _ (List.mem_of_getElem? (i := 54) rfl))) (ty := .int) (by decide)
  have f10 : Fld Z h4 sq "com/example/score_on_crawl/scoreoncrawl/engine/BreadthFirstSequence" "pages" "I" (.int (0 : Int32)) := D4 (Or.inl (hw _ (List.mem_of_getElem? (i := 56) rfl))) (ty := .int) (by decide)
  show OwnG p e below s _ _ _ (T4.setTop (mkF m 159 #[.val (.int va), .val (.int vb), .val (.int vc), .val (.int vd), .val (.int ve), .val (.int (1 : Int32)), .val (.int (1 : Int32)), .val (.int (2 : Int32)), .val (.int ds), .val (.int te), .val (.int pa), .val (.int pb), .val (.int qa), .val (.int qb), .val (.int qc), .val (.ref lk), .unset, .unset, .unset, .unset, .unset, .unset, .unset, .unset] [(.ref sq)]))
  refine own_by (fun t kk_ => XS.dup X4.here hx rfl (hb hby at_159) rfl rfl kk_) ?_
  show OwnG p e below s _ _ _ (T4.setTop (mkF m 160 #[.val (.int va), .val (.int vb), .val (.int vc), .val (.int vd), .val (.int ve), .val (.int (1 : Int32)), .val (.int (1 : Int32)), .val (.int (2 : Int32)), .val (.int ds), .val (.int te), .val (.int pa), .val (.int pb), .val (.int qa), .val (.int qb), .val (.int qc), .val (.ref lk), .unset, .unset, .unset, .unset, .unset, .unset, .unset, .unset] [(.ref sq), (.ref sq)]))
  obtain ⟨_, _, ⟨T11, L11, k11, n11⟩, -, X11, ⟨Lc11, hQ11, l11, y11, z11⟩, st11⟩ := X4.specialBack hx (y := (⟨"com/example/score_on_crawl/scoreoncrawl/engine/BreadthFirstSequence", "<init>", "()V"⟩ : MethodName)) rfl hown (mvT hZ (hw _ (List.mem_of_getElem? (i := 5) rfl))) (mvT hZ (hw _ (List.mem_of_getElem? (i := 6) rfl))) (mvT hZ (hw _ (List.mem_of_getElem? (i := 7) rfl))) (by decide) (backOf (W := 1) (rm1 l Z a0 hw [] sq h4 n0 sz4 A4 f8 f10 f9 f6 gg_sq) hZ (hw _ (List.mem_of_getElem? (i := 7) rfl)) (hw _ (List.mem_of_getElem? (i := 4) rfl)) (by decide) (by decide)) (g := (mkF m 160 #[.val (.int va), .val (.int vb), .val (.int vc), .val (.int vd), .val (.int ve), .val (.int (1 : Int32)), .val (.int (1 : Int32)), .val (.int (2 : Int32)), .val (.int ds), .val (.int te), .val (.int pa), .val (.int pb), .val (.int qa), .val (.int qb), .val (.int qc), .val (.ref lk), .unset, .unset, .unset, .unset, .unset, .unset, .unset, .unset] [(.ref sq), (.ref sq)])) rfl (by rw [hml]; rfl) (Steps.refl _) (a := sq) (argsL := []) (rest := [(.ref sq)]) (lenOf pd_2 rfl) rfl (by show 2 * 0 + _ ≤ _; exact Nat.le_of_eq rfl) (hb hby at_160) (fun _ _ => ⟨rfl, e4, (by decide : 0 + 1 + 1 + 3 ≤ _), (by decide : 0 + 3 + 5 ≤ _)⟩)
  dsimp only [Pt.U, Pt.locs, Pt.cells, Pt.slots] at X11 l11 y11 z11 st11 hQ11
  subst l11 y11 z11
  refine own_by (fun t kk_ => st11.trans kk_) ?_
  obtain ⟨rfl, N11q, fp, bs, wa, S11, Nn⟩ := hQ11
  have N11 := Fr.app N0 N11q
  have sz11 : n0 ≤ T11.heap.size := Nat.le_trans Nn.1 (Nat.le_of_lt (Exa.lt S11.1))
  show OwnG p e below s _ _ _ (T11.setTop (mkF m 163 #[.val (.int va), .val (.int vb), .val (.int vc), .val (.int vd), .val (.int ve), .val (.int (1 : Int32)), .val (.int (1 : Int32)), .val (.int (2 : Int32)), .val (.int ds), .val (.int te), .val (.int pa), .val (.int pb), .val (.int qa), .val (.int qb), .val (.int qc), .val (.ref lk), .unset, .unset, .unset, .unset, .unset, .unset, .unset, .unset] [(.ref sq)]))
  refine own_by (fun t kk_ => XS.astore X11.here hx rfl (hb hby at_163) rfl rfl (l' := #[.val (.int va), .val (.int vb), .val (.int vc), .val (.int vd), .val (.int ve), .val (.int (1 : Int32)), .val (.int (1 : Int32)), .val (.int (2 : Int32)), .val (.int ds), .val (.int te), .val (.int pa), .val (.int pb), .val (.int qa), .val (.int qb), .val (.int qc), .val (.ref lk), .val (.ref sq), .unset, .unset, .unset, .unset, .unset, .unset, .unset]) rfl kk_) ?_
  show OwnG p e below s _ _ _ (T11.setTop (mkF m 165 #[.val (.int va), .val (.int vb), .val (.int vc), .val (.int vd), .val (.int ve), .val (.int (1 : Int32)), .val (.int (1 : Int32)), .val (.int (2 : Int32)), .val (.int ds), .val (.int te), .val (.int pa), .val (.int pb), .val (.int qa), .val (.int qb), .val (.int qc), .val (.ref lk), .val (.ref sq), .unset, .unset, .unset, .unset, .unset, .unset, .unset] []))
  refine own_by (fun t kk_ => XS.iload X11.here hx rfl (hb hby at_165) rfl  kk_) ?_
  show OwnG p e below s _ _ _ (T11.setTop (mkF m 167 #[.val (.int va), .val (.int vb), .val (.int vc), .val (.int vd), .val (.int ve), .val (.int (1 : Int32)), .val (.int (1 : Int32)), .val (.int (2 : Int32)), .val (.int ds), .val (.int te), .val (.int pa), .val (.int pb), .val (.int qa), .val (.int qb), .val (.int qc), .val (.ref lk), .val (.ref sq), .unset, .unset, .unset, .unset, .unset, .unset, .unset] [(.int (1 : Int32))]))
  refine own_by (fun t kk_ => XS.ifNo X11.here hx rfl (hb hby at_167) rfl ((if0 _ _).trans (tlt (by decide)).2.2.2) kk_) ?_
  show OwnG p e below s _ _ _ (T11.setTop (mkF m 170 #[.val (.int va), .val (.int vb), .val (.int vc), .val (.int vd), .val (.int ve), .val (.int (1 : Int32)), .val (.int (1 : Int32)), .val (.int (2 : Int32)), .val (.int ds), .val (.int te), .val (.int pa), .val (.int pb), .val (.int qa), .val (.int qb), .val (.int qc), .val (.ref lk), .val (.ref sq), .unset, .unset, .unset, .unset, .unset, .unset, .unset] []))
  refine own_by (fun t kk_ => XS.aload X11.here hx rfl (hb hby at_170) rfl rfl kk_) ?_
  show OwnG p e below s _ _ _ (T11.setTop (mkF m 172 #[.val (.int va), .val (.int vb), .val (.int vc), .val (.int vd), .val (.int ve), .val (.int (1 : Int32)), .val (.int (1 : Int32)), .val (.int (2 : Int32)), .val (.int ds), .val (.int te), .val (.int pa), .val (.int pb), .val (.int qa), .val (.int qb), .val (.int qc), .val (.ref lk), .val (.ref sq), .unset, .unset, .unset, .unset, .unset, .unset, .unset] [(.ref sq)]))
  refine own_by (fun t kk_ => XS.iconst X11.here hx rfl (hb hby at_172) kk_) ?_
  show OwnG p e below s _ _ _ (T11.setTop (mkF m 173 #[.val (.int va), .val (.int vb), .val (.int vc), .val (.int vd), .val (.int ve), .val (.int (1 : Int32)), .val (.int (1 : Int32)), .val (.int (2 : Int32)), .val (.int ds), .val (.int te), .val (.int pa), .val (.int pb), .val (.int qa), .val (.int qb), .val (.int qc), .val (.ref lk), .val (.ref sq), .unset, .unset, .unset, .unset, .unset, .unset, .unset] [(.int (0 : Int32)), (.ref sq)]))
  refine own_by (fun t kk_ => XS.iload X11.here hx rfl (hb hby at_173) rfl  kk_) ?_
  show OwnG p e below s _ _ _ (T11.setTop (mkF m 175 #[.val (.int va), .val (.int vb), .val (.int vc), .val (.int vd), .val (.int ve), .val (.int (1 : Int32)), .val (.int (1 : Int32)), .val (.int (2 : Int32)), .val (.int ds), .val (.int te), .val (.int pa), .val (.int pb), .val (.int qa), .val (.int qb), .val (.int qc), .val (.ref lk), .val (.ref sq), .unset, .unset, .unset, .unset, .unset, .unset, .unset] [(.int te), (.int (0 : Int32)), (.ref sq)]))
  obtain ⟨cq12, kq12, q12a, q12b, q12c⟩ := isOf hZ (rfl : T11.heap = T11.heap) S11.1
  obtain ⟨_, _, ⟨T12, L12, k12, n12⟩, -, X12, ⟨Lc12, hQ12, l12, y12, z12⟩, st12⟩ := X11.virtualBack hx (y := (⟨"com/example/score_on_crawl/scoreoncrawl/engine/BreadthFirstSequence", "added", "(IZ)V"⟩ : MethodName)) (z := (⟨"com/example/score_on_crawl/scoreoncrawl/engine/BreadthFirstSequence", "added", "(IZ)V"⟩ : MethodName)) hown (mvT hZ (hw _ (List.mem_of_getElem? (i := 57) rfl))) (mvT hZ (hw _ (List.mem_of_getElem? (i := 58) rfl))) (notFace_of_selects (args := #[]) (mvT hZ (hw _ (List.mem_of_getElem? (i := 60) rfl)))) (mvT hZ (hw _ (List.mem_of_getElem? (i := 60) rfl))) (mvT hZ (hw _ (List.mem_of_getElem? (i := 59) rfl))) (by decide) (backOf (W := 0) (rm9 l Z a0 hw [] sq fp bs wa (0 : Int32) (0 : Int32) (0 : Int32) (0 : Int32) te (1 : Int32) (0 : Int64) T11.heap n0 sz11 ⟨S11.1, S11.2.1, S11.2.2.1, S11.2.2.2.1, ⟨S11.2.2.2.2.1, S11.2.2.2.2.2.1, ⟨S11.2.2.2.2.2.2.1, S11.2.2.2.2.2.2.2.1, S11.2.2.2.2.2.2.2.2.1, S11.2.2.2.2.2.2.2.2.2.1, S11.2.2.2.2.2.2.2.2.2.2⟩⟩⟩ Nn (by decide)) hZ (hw _ (List.mem_of_getElem? (i := 61) rfl)) (hw _ (List.mem_of_getElem? (i := 4) rfl)) (by decide) (by decide)) q12a q12c (g := (mkF m 175 #[.val (.int va), .val (.int vb), .val (.int vc), .val (.int vd), .val (.int ve), .val (.int (1 : Int32)), .val (.int (1 : Int32)), .val (.int (2 : Int32)), .val (.int ds), .val (.int te), .val (.int pa), .val (.int pb), .val (.int qa), .val (.int qb), .val (.int qc), .val (.ref lk), .val (.ref sq), .unset, .unset, .unset, .unset, .unset, .unset, .unset] [(.int te), (.int (0 : Int32)), (.ref sq)])) rfl (by rw [hml]; rfl) (Steps.refl _) (argsL := [(.int (0 : Int32)), (.int te)]) (rest := []) (lenOf pd_5 rfl) rfl (by show 2 * 0 + _ ≤ _; exact Nat.le_of_eq rfl) (hb hby at_175) (fun _ _ => ⟨rfl, (rfl : T11.heap = T11.heap), (by decide : 0 + 1 + 1 + 3 + 0 ≤ _), (by decide : 0 + 3 + 5 + 0 ≤ _)⟩)
  dsimp only [Pt.U, Pt.locs, Pt.cells, Pt.slots] at X12 l12 y12 z12 st12 hQ12
  subst l12 y12 z12
  refine own_by (fun t kk_ => st12.trans kk_) ?_
  obtain ⟨rfl, N12q, S12⟩ := hQ12
  have N12 := Fr.app N11 N12q
  have sz12 : n0 ≤ T12.heap.size := Nat.le_trans Nn.1 (Nat.le_of_lt (Exa.lt S12.1))
  show OwnG p e below s _ _ _ (T12.setTop (mkF m 178 #[.val (.int va), .val (.int vb), .val (.int vc), .val (.int vd), .val (.int ve), .val (.int (1 : Int32)), .val (.int (1 : Int32)), .val (.int (2 : Int32)), .val (.int ds), .val (.int te), .val (.int pa), .val (.int pb), .val (.int qa), .val (.int qb), .val (.int qc), .val (.ref lk), .val (.ref sq), .unset, .unset, .unset, .unset, .unset, .unset, .unset] []))
  refine own_by (fun t kk_ => XS.iload X12.here hx rfl (hb hby at_178) rfl  kk_) ?_
  show OwnG p e below s _ _ _ (T12.setTop (mkF m 180 #[.val (.int va), .val (.int vb), .val (.int vc), .val (.int vd), .val (.int ve), .val (.int (1 : Int32)), .val (.int (1 : Int32)), .val (.int (2 : Int32)), .val (.int ds), .val (.int te), .val (.int pa), .val (.int pb), .val (.int qa), .val (.int qb), .val (.int qc), .val (.ref lk), .val (.ref sq), .unset, .unset, .unset, .unset, .unset, .unset, .unset] [(.int (1 : Int32))]))
  refine own_by (fun t kk_ => XS.iconst X12.here hx rfl (hb hby at_180) kk_) ?_
  show OwnG p e below s _ _ _ (T12.setTop (mkF m 181 #[.val (.int va), .val (.int vb), .val (.int vc), .val (.int vd), .val (.int ve), .val (.int (1 : Int32)), .val (.int (1 : Int32)), .val (.int (2 : Int32)), .val (.int ds), .val (.int te), .val (.int pa), .val (.int pb), .val (.int qa), .val (.int qb), .val (.int qc), .val (.ref lk), .val (.ref sq), .unset, .unset, .unset, .unset, .unset, .unset, .unset] [(.int (1 : Int32)), (.int (1 : Int32))]))
  refine own_by (fun t kk_ => XS.icmpYes X12.here hx rfl (pc0 := 181) (pc' := 200) rfl (hb hby at_181) rfl (flt (by decide)).2.2.2 (by decide) (by decide) kk_) ?_
  show OwnG p e below s _ _ _ (T12.setTop (mkF m 200 #[.val (.int va), .val (.int vb), .val (.int vc), .val (.int vd), .val (.int ve), .val (.int (1 : Int32)), .val (.int (1 : Int32)), .val (.int (2 : Int32)), .val (.int ds), .val (.int te), .val (.int pa), .val (.int pb), .val (.int qa), .val (.int qb), .val (.int qc), .val (.ref lk), .val (.ref sq), .unset, .unset, .unset, .unset, .unset, .unset, .unset] []))
  refine own_by (fun t kk_ => XS.aload X12.here hx rfl (hb hby at_200) rfl rfl kk_) ?_
  show OwnG p e below s _ _ _ (T12.setTop (mkF m 202 #[.val (.int va), .val (.int vb), .val (.int vc), .val (.int vd), .val (.int ve), .val (.int (1 : Int32)), .val (.int (1 : Int32)), .val (.int (2 : Int32)), .val (.int ds), .val (.int te), .val (.int pa), .val (.int pb), .val (.int qa), .val (.int qb), .val (.int qc), .val (.ref lk), .val (.ref sq), .unset, .unset, .unset, .unset, .unset, .unset, .unset] [(.ref sq)]))
  refine own_by (fun t kk_ => XS.iload X12.here hx rfl (hb hby at_202) rfl  kk_) ?_
  show OwnG p e below s _ _ _ (T12.setTop (mkF m 204 #[.val (.int va), .val (.int vb), .val (.int vc), .val (.int vd), .val (.int ve), .val (.int (1 : Int32)), .val (.int (1 : Int32)), .val (.int (2 : Int32)), .val (.int ds), .val (.int te), .val (.int pa), .val (.int pb), .val (.int qa), .val (.int qb), .val (.int qc), .val (.ref lk), .val (.ref sq), .unset, .unset, .unset, .unset, .unset, .unset, .unset] [(.int pa), (.ref sq)]))
  refine own_by (fun t kk_ => XS.iload X12.here hx rfl (hb hby at_204) rfl  kk_) ?_
  show OwnG p e below s _ _ _ (T12.setTop (mkF m 206 #[.val (.int va), .val (.int vb), .val (.int vc), .val (.int vd), .val (.int ve), .val (.int (1 : Int32)), .val (.int (1 : Int32)), .val (.int (2 : Int32)), .val (.int ds), .val (.int te), .val (.int pa), .val (.int pb), .val (.int qa), .val (.int qb), .val (.int qc), .val (.ref lk), .val (.ref sq), .unset, .unset, .unset, .unset, .unset, .unset, .unset] [(.int pb), (.int pa), (.ref sq)]))
  refine own_by (fun t kk_ => XS.iload X12.here hx rfl (hb hby at_206) rfl  kk_) ?_
  show OwnG p e below s _ _ _ (T12.setTop (mkF m 208 #[.val (.int va), .val (.int vb), .val (.int vc), .val (.int vd), .val (.int ve), .val (.int (1 : Int32)), .val (.int (1 : Int32)), .val (.int (2 : Int32)), .val (.int ds), .val (.int te), .val (.int pa), .val (.int pb), .val (.int qa), .val (.int qb), .val (.int qc), .val (.ref lk), .val (.ref sq), .unset, .unset, .unset, .unset, .unset, .unset, .unset] [(.int ds), (.int pb), (.int pa), (.ref sq)]))
  refine own_by (fun t kk_ => XS.aload X12.here hx rfl (hb hby at_208) rfl rfl kk_) ?_
  show OwnG p e below s _ _ _ (T12.setTop (mkF m 210 #[.val (.int va), .val (.int vb), .val (.int vc), .val (.int vd), .val (.int ve), .val (.int (1 : Int32)), .val (.int (1 : Int32)), .val (.int (2 : Int32)), .val (.int ds), .val (.int te), .val (.int pa), .val (.int pb), .val (.int qa), .val (.int qb), .val (.int qc), .val (.ref lk), .val (.ref sq), .unset, .unset, .unset, .unset, .unset, .unset, .unset] [(.ref lk), (.int ds), (.int pb), (.int pa), (.ref sq)]))
  obtain ⟨_, _, ⟨T13, L13, k13, n13⟩, -, X13, ⟨Lc13, hQ13, l13, y13, z13⟩, st13⟩ := Jvm.LawKit.callS X12 hx (y := (⟨"com/example/score_on_crawl/scoreoncrawl/engine/BreadthFirstSequenceHasNextPinLaw", "fetchTwo", "(Lcom/example/score_on_crawl/scoreoncrawl/engine/BreadthFirstSequence;ZZZ[I)V"⟩ : MethodName)) hown (mvT hZ (hw _ (List.mem_of_getElem? (i := 44) rfl))) (mvT hZ (hw _ (List.mem_of_getElem? (i := 45) rfl))) (mvT hZ (hw _ (List.mem_of_getElem? (i := 46) rfl))) (mvT hZ (hw _ (List.mem_of_getElem? (i := 47) rfl))) (by decide) (backOf (W := 0) (rm7 l Z a0 hw [] sq fp bs wa lk (1 : Int32) (0 : Int32) (0 : Int32) pa pb ds (0 : Int64) T12.heap n0 sz12 ⟨S12.1, S12.2.1, S12.2.2.1, S12.2.2.2.1, ⟨S12.2.2.2.2.1, S12.2.2.2.2.2.1, ⟨S12.2.2.2.2.2.2.1, S12.2.2.2.2.2.2.2.1, S12.2.2.2.2.2.2.2.2.1, S12.2.2.2.2.2.2.2.2.2.1, S12.2.2.2.2.2.2.2.2.2.2⟩⟩⟩ Nn (Or.inl rfl) (Or.inl rfl) rfl) hZ (hw _ (List.mem_of_getElem? (i := 47) rfl)) (hw _ (List.mem_of_getElem? (i := 46) rfl)) (by decide) (by decide)) (g := (mkF m 210 #[.val (.int va), .val (.int vb), .val (.int vc), .val (.int vd), .val (.int ve), .val (.int (1 : Int32)), .val (.int (1 : Int32)), .val (.int (2 : Int32)), .val (.int ds), .val (.int te), .val (.int pa), .val (.int pb), .val (.int qa), .val (.int qb), .val (.int qc), .val (.ref lk), .val (.ref sq), .unset, .unset, .unset, .unset, .unset, .unset, .unset] [(.ref lk), (.int ds), (.int pb), (.int pa), (.ref sq)])) rfl (by rw [hml]; rfl) (argsL := [(.ref sq), (.int pa), (.int pb), (.int ds), (.ref lk)]) (rest := []) (lenOf pd_6 rfl) rfl (by show 2 * 0 + _ ≤ _; exact Nat.le_of_eq rfl) (hb hby at_210) (fun _ _ => ⟨rfl, (rfl : T12.heap = T12.heap), (by decide : 0 + 1 + 1 + 3 + 0 ≤ _), (by decide : 0 + 3 + 5 + 0 ≤ _)⟩)
  dsimp only [Pt.U, Pt.locs, Pt.cells, Pt.slots] at X13 l13 y13 z13 st13 hQ13
  subst l13 y13 z13
  refine own_by (fun t kk_ => st13 _ kk_) ?_
  obtain ⟨rfl, N13q, u13, hm13, hu13, S13⟩ := hQ13
  have N13 := Fr.app N12 N13q
  have sz13 : n0 ≤ T13.heap.size := Nat.le_trans Nn.1 (Nat.le_of_lt (Exa.lt S13.1))
  show OwnG p e below s _ _ _ (T13.setTop (mkF m 213 #[.val (.int va), .val (.int vb), .val (.int vc), .val (.int vd), .val (.int ve), .val (.int (1 : Int32)), .val (.int (1 : Int32)), .val (.int (2 : Int32)), .val (.int ds), .val (.int te), .val (.int pa), .val (.int pb), .val (.int qa), .val (.int qb), .val (.int qc), .val (.ref lk), .val (.ref sq), .unset, .unset, .unset, .unset, .unset, .unset, .unset] []))
  refine own_by (fun t kk_ => XS.aload X13.here hx rfl (hb hby at_213) rfl rfl kk_) ?_
  show OwnG p e below s _ _ _ (T13.setTop (mkF m 215 #[.val (.int va), .val (.int vb), .val (.int vc), .val (.int vd), .val (.int ve), .val (.int (1 : Int32)), .val (.int (1 : Int32)), .val (.int (2 : Int32)), .val (.int ds), .val (.int te), .val (.int pa), .val (.int pb), .val (.int qa), .val (.int qb), .val (.int qc), .val (.ref lk), .val (.ref sq), .unset, .unset, .unset, .unset, .unset, .unset, .unset] [(.ref sq)]))
  obtain ⟨cq14, kq14, q14a, q14b, q14c⟩ := isOf hZ (rfl : T13.heap = T13.heap) S13.1
  obtain ⟨_, _, ⟨T14, L14, k14, n14⟩, -, X14, ⟨Lc14, hQ14, l14, y14, z14⟩, st14⟩ := X13.virtualBack hx (y := (⟨"com/example/score_on_crawl/scoreoncrawl/engine/BreadthFirstSequence", "hasNext", "()Z"⟩ : MethodName)) (z := (⟨"com/example/score_on_crawl/scoreoncrawl/engine/BreadthFirstSequence", "hasNext", "()Z"⟩ : MethodName)) hown (mvT hZ (hw _ (List.mem_of_getElem? (i := 48) rfl))) (mvT hZ (hw _ (List.mem_of_getElem? (i := 49) rfl))) (notFace_of_selects (args := #[]) (mvT hZ (hw _ (List.mem_of_getElem? (i := 51) rfl)))) (mvT hZ (hw _ (List.mem_of_getElem? (i := 51) rfl))) (mvT hZ (hw _ (List.mem_of_getElem? (i := 50) rfl))) (by decide) (backOf (W := 0) (rm8 l Z a0 hw [] sq fp bs wa (1 : Int32) (own_c (own_set (0 : Int64) pa pb 0)) u13 (own_set (0 : Int64) pa pb 0) T13.heap n0 sz13 ⟨S13.1, S13.2.1, S13.2.2.1, S13.2.2.2.1, ⟨S13.2.2.2.2.1, S13.2.2.2.2.2.1, ⟨S13.2.2.2.2.2.2.1, S13.2.2.2.2.2.2.2.1, S13.2.2.2.2.2.2.2.2.1, S13.2.2.2.2.2.2.2.2.2.1, S13.2.2.2.2.2.2.2.2.2.2⟩⟩⟩) hZ (hw _ (List.mem_of_getElem? (i := 52) rfl)) (hw _ (List.mem_of_getElem? (i := 4) rfl)) (by decide) (by decide)) q14a q14c (g := (mkF m 215 #[.val (.int va), .val (.int vb), .val (.int vc), .val (.int vd), .val (.int ve), .val (.int (1 : Int32)), .val (.int (1 : Int32)), .val (.int (2 : Int32)), .val (.int ds), .val (.int te), .val (.int pa), .val (.int pb), .val (.int qa), .val (.int qb), .val (.int qc), .val (.ref lk), .val (.ref sq), .unset, .unset, .unset, .unset, .unset, .unset, .unset] [(.ref sq)])) rfl (by rw [hml]; rfl) (Steps.refl _) (argsL := []) (rest := []) (lenOf pd_7 rfl) rfl (by show 2 * 0 + _ ≤ _; exact Nat.le_of_eq rfl) (hb hby at_215) (fun _ _ => ⟨rfl, (rfl : T13.heap = T13.heap), (by decide : 0 + 1 + 1 + 3 + 0 ≤ _), (by decide : 0 + 3 + 5 + 0 ≤ _)⟩)
  dsimp only [Pt.U, Pt.locs, Pt.cells, Pt.slots] at X14 l14 y14 z14 st14 hQ14
  subst l14 y14 z14
  refine own_by (fun t kk_ => st14.trans kk_) ?_
  obtain ⟨rfl, N14q, hh14⟩ := hQ14
  have N14 := Fr.app N13 N14q
  have f15 := S13.1
  rw [← hh14] at f15
  have f16 := S13.2.1
  rw [← hh14] at f16
  have f17 := S13.2.2.1
  rw [← hh14] at f17
  have f18 := S13.2.2.2.1
  rw [← hh14] at f18
  have f19 := S13.2.2.2.2.1
  rw [← hh14] at f19
  have f20 := S13.2.2.2.2.2.1
  rw [← hh14] at f20
  have f21 := S13.2.2.2.2.2.2.1
  rw [← hh14] at f21
  have f22 := S13.2.2.2.2.2.2.2.1
  rw [← hh14] at f22
  have f23 := S13.2.2.2.2.2.2.2.2.1
  rw [← hh14] at f23
  have f24 := S13.2.2.2.2.2.2.2.2.2.1
  rw [← hh14] at f24
  have f25 := S13.2.2.2.2.2.2.2.2.2.2
  rw [← hh14] at f25
  have sz14 : n0 ≤ T14.heap.size := by rw [hh14]; exact sz13
  show OwnG p e below s _ _ _ (T14.setTop (mkF m 218 #[.val (.int va), .val (.int vb), .val (.int vc), .val (.int vd), .val (.int ve), .val (.int (1 : Int32)), .val (.int (1 : Int32)), .val (.int (2 : Int32)), .val (.int ds), .val (.int te), .val (.int pa), .val (.int pb), .val (.int qa), .val (.int qb), .val (.int qc), .val (.ref lk), .val (.ref sq), .unset, .unset, .unset, .unset, .unset, .unset, .unset] [(.int (own_lt (own_c (own_set (0 : Int64) pa pb 0)) (1 : Int32)))]))
  refine own_by (fun t kk_ => XS.istore X14.here hx rfl (hb hby at_218) rfl (l' := #[.val (.int va), .val (.int vb), .val (.int vc), .val (.int vd), .val (.int ve), .val (.int (1 : Int32)), .val (.int (1 : Int32)), .val (.int (2 : Int32)), .val (.int ds), .val (.int te), .val (.int pa), .val (.int pb), .val (.int qa), .val (.int qb), .val (.int qc), .val (.ref lk), .val (.ref sq), .val (.int (own_lt (own_c (own_set (0 : Int64) pa pb 0)) (1 : Int32))), .unset, .unset, .unset, .unset, .unset, .unset]) rfl kk_) ?_
  show OwnG p e below s _ _ _ (T14.setTop (mkF m 220 #[.val (.int va), .val (.int vb), .val (.int vc), .val (.int vd), .val (.int ve), .val (.int (1 : Int32)), .val (.int (1 : Int32)), .val (.int (2 : Int32)), .val (.int ds), .val (.int te), .val (.int pa), .val (.int pb), .val (.int qa), .val (.int qb), .val (.int qc), .val (.ref lk), .val (.ref sq), .val (.int (own_lt (own_c (own_set (0 : Int64) pa pb 0)) (1 : Int32))), .unset, .unset, .unset, .unset, .unset, .unset] []))
  refine own_by (fun t kk_ => XS.iload X14.here hx rfl (hb hby at_220) rfl  kk_) ?_
  show OwnG p e below s _ _ _ (T14.setTop (mkF m 222 #[.val (.int va), .val (.int vb), .val (.int vc), .val (.int vd), .val (.int ve), .val (.int (1 : Int32)), .val (.int (1 : Int32)), .val (.int (2 : Int32)), .val (.int ds), .val (.int te), .val (.int pa), .val (.int pb), .val (.int qa), .val (.int qb), .val (.int qc), .val (.ref lk), .val (.ref sq), .val (.int (own_lt (own_c (own_set (0 : Int64) pa pb 0)) (1 : Int32))), .unset, .unset, .unset, .unset, .unset, .unset] [(.int (1 : Int32))]))
  refine own_by (fun t kk_ => XS.ifNo X14.here hx rfl (hb hby at_222) rfl ((if0 _ _).trans (tlt (by decide)).2.2.2) kk_) ?_
  show OwnG p e below s _ _ _ (T14.setTop (mkF m 225 #[.val (.int va), .val (.int vb), .val (.int vc), .val (.int vd), .val (.int ve), .val (.int (1 : Int32)), .val (.int (1 : Int32)), .val (.int (2 : Int32)), .val (.int ds), .val (.int te), .val (.int pa), .val (.int pb), .val (.int qa), .val (.int qb), .val (.int qc), .val (.ref lk), .val (.ref sq), .val (.int (own_lt (own_c (own_set (0 : Int64) pa pb 0)) (1 : Int32))), .unset, .unset, .unset, .unset, .unset, .unset] []))
  refine own_by (fun t kk_ => XS.aload X14.here hx rfl (hb hby at_225) rfl rfl kk_) ?_
  show OwnG p e below s _ _ _ (T14.setTop (mkF m 227 #[.val (.int va), .val (.int vb), .val (.int vc), .val (.int vd), .val (.int ve), .val (.int (1 : Int32)), .val (.int (1 : Int32)), .val (.int (2 : Int32)), .val (.int ds), .val (.int te), .val (.int pa), .val (.int pb), .val (.int qa), .val (.int qb), .val (.int qc), .val (.ref lk), .val (.ref sq), .val (.int (own_lt (own_c (own_set (0 : Int64) pa pb 0)) (1 : Int32))), .unset, .unset, .unset, .unset, .unset, .unset] [(.ref sq)]))
  refine own_by (fun t kk_ => XS.iload X14.here hx rfl (hb hby at_227) rfl  kk_) ?_
  show OwnG p e below s _ _ _ (T14.setTop (mkF m 229 #[.val (.int va), .val (.int vb), .val (.int vc), .val (.int vd), .val (.int ve), .val (.int (1 : Int32)), .val (.int (1 : Int32)), .val (.int (2 : Int32)), .val (.int ds), .val (.int te), .val (.int pa), .val (.int pb), .val (.int qa), .val (.int qb), .val (.int qc), .val (.ref lk), .val (.ref sq), .val (.int (own_lt (own_c (own_set (0 : Int64) pa pb 0)) (1 : Int32))), .unset, .unset, .unset, .unset, .unset, .unset] [(.int (1 : Int32)), (.ref sq)]))
  refine own_by (fun t kk_ => XS.iload X14.here hx rfl (hb hby at_229) rfl  kk_) ?_
  show OwnG p e below s _ _ _ (T14.setTop (mkF m 231 #[.val (.int va), .val (.int vb), .val (.int vc), .val (.int vd), .val (.int ve), .val (.int (1 : Int32)), .val (.int (1 : Int32)), .val (.int (2 : Int32)), .val (.int ds), .val (.int te), .val (.int pa), .val (.int pb), .val (.int qa), .val (.int qb), .val (.int qc), .val (.ref lk), .val (.ref sq), .val (.int (own_lt (own_c (own_set (0 : Int64) pa pb 0)) (1 : Int32))), .unset, .unset, .unset, .unset, .unset, .unset] [(.int te), (.int (1 : Int32)), (.ref sq)]))
  obtain ⟨cq26, kq26, q26a, q26b, q26c⟩ := isOf hZ (rfl : T14.heap = T14.heap) f15
  obtain ⟨_, _, ⟨T26, L26, k26, n26⟩, -, X26, ⟨Lc26, hQ26, l26, y26, z26⟩, st26⟩ := X14.virtualBack hx (y := (⟨"com/example/score_on_crawl/scoreoncrawl/engine/BreadthFirstSequence", "added", "(IZ)V"⟩ : MethodName)) (z := (⟨"com/example/score_on_crawl/scoreoncrawl/engine/BreadthFirstSequence", "added", "(IZ)V"⟩ : MethodName)) hown (mvT hZ (hw _ (List.mem_of_getElem? (i := 57) rfl))) (mvT hZ (hw _ (List.mem_of_getElem? (i := 58) rfl))) (notFace_of_selects (args := #[]) (mvT hZ (hw _ (List.mem_of_getElem? (i := 60) rfl)))) (mvT hZ (hw _ (List.mem_of_getElem? (i := 60) rfl))) (mvT hZ (hw _ (List.mem_of_getElem? (i := 59) rfl))) (by decide) (backOf (W := 0) (rm9 l Z a0 hw [] sq fp bs wa (1 : Int32) (own_c (own_set (0 : Int64) pa pb 0)) u13 (1 : Int32) te (2 : Int32) (own_set (0 : Int64) pa pb 0) T14.heap n0 sz14 ⟨f15, f16, f17, f18, ⟨f19, f20, ⟨f21, f22, f23, f24, f25⟩⟩⟩ Nn (by decide)) hZ (hw _ (List.mem_of_getElem? (i := 61) rfl)) (hw _ (List.mem_of_getElem? (i := 4) rfl)) (by decide) (by decide)) q26a q26c (g := (mkF m 231 #[.val (.int va), .val (.int vb), .val (.int vc), .val (.int vd), .val (.int ve), .val (.int (1 : Int32)), .val (.int (1 : Int32)), .val (.int (2 : Int32)), .val (.int ds), .val (.int te), .val (.int pa), .val (.int pb), .val (.int qa), .val (.int qb), .val (.int qc), .val (.ref lk), .val (.ref sq), .val (.int (own_lt (own_c (own_set (0 : Int64) pa pb 0)) (1 : Int32))), .unset, .unset, .unset, .unset, .unset, .unset] [(.int te), (.int (1 : Int32)), (.ref sq)])) rfl (by rw [hml]; rfl) (Steps.refl _) (argsL := [(.int (1 : Int32)), (.int te)]) (rest := []) (lenOf pd_5 rfl) rfl (by show 2 * 0 + _ ≤ _; exact Nat.le_of_eq rfl) (hb hby at_231) (fun _ _ => ⟨rfl, (rfl : T14.heap = T14.heap), (by decide : 0 + 1 + 1 + 3 + 0 ≤ _), (by decide : 0 + 3 + 5 + 0 ≤ _)⟩)
  dsimp only [Pt.U, Pt.locs, Pt.cells, Pt.slots] at X26 l26 y26 z26 st26 hQ26
  subst l26 y26 z26
  refine own_by (fun t kk_ => st26.trans kk_) ?_
  obtain ⟨rfl, N26q, S26⟩ := hQ26
  have N26 := Fr.app N14 N26q
  have sz26 : n0 ≤ T26.heap.size := Nat.le_trans Nn.1 (Nat.le_of_lt (Exa.lt S26.1))
  show OwnG p e below s _ _ _ (T26.setTop (mkF m 234 #[.val (.int va), .val (.int vb), .val (.int vc), .val (.int vd), .val (.int ve), .val (.int (1 : Int32)), .val (.int (1 : Int32)), .val (.int (2 : Int32)), .val (.int ds), .val (.int te), .val (.int pa), .val (.int pb), .val (.int qa), .val (.int qb), .val (.int qc), .val (.ref lk), .val (.ref sq), .val (.int (own_lt (own_c (own_set (0 : Int64) pa pb 0)) (1 : Int32))), .unset, .unset, .unset, .unset, .unset, .unset] []))
  refine own_by (fun t kk_ => XS.aload X26.here hx rfl (hb hby at_234) rfl rfl kk_) ?_
  show OwnG p e below s _ _ _ (T26.setTop (mkF m 236 #[.val (.int va), .val (.int vb), .val (.int vc), .val (.int vd), .val (.int ve), .val (.int (1 : Int32)), .val (.int (1 : Int32)), .val (.int (2 : Int32)), .val (.int ds), .val (.int te), .val (.int pa), .val (.int pb), .val (.int qa), .val (.int qb), .val (.int qc), .val (.ref lk), .val (.ref sq), .val (.int (own_lt (own_c (own_set (0 : Int64) pa pb 0)) (1 : Int32))), .unset, .unset, .unset, .unset, .unset, .unset] [(.ref sq)]))
  refine own_by (fun t kk_ => XS.iload X26.here hx rfl (hb hby at_236) rfl  kk_) ?_
  show OwnG p e below s _ _ _ (T26.setTop (mkF m 238 #[.val (.int va), .val (.int vb), .val (.int vc), .val (.int vd), .val (.int ve), .val (.int (1 : Int32)), .val (.int (1 : Int32)), .val (.int (2 : Int32)), .val (.int ds), .val (.int te), .val (.int pa), .val (.int pb), .val (.int qa), .val (.int qb), .val (.int qc), .val (.ref lk), .val (.ref sq), .val (.int (own_lt (own_c (own_set (0 : Int64) pa pb 0)) (1 : Int32))), .unset, .unset, .unset, .unset, .unset, .unset] [(.int qa), (.ref sq)]))
  refine own_by (fun t kk_ => XS.iload X26.here hx rfl (hb hby at_238) rfl  kk_) ?_
  show OwnG p e below s _ _ _ (T26.setTop (mkF m 240 #[.val (.int va), .val (.int vb), .val (.int vc), .val (.int vd), .val (.int ve), .val (.int (1 : Int32)), .val (.int (1 : Int32)), .val (.int (2 : Int32)), .val (.int ds), .val (.int te), .val (.int pa), .val (.int pb), .val (.int qa), .val (.int qb), .val (.int qc), .val (.ref lk), .val (.ref sq), .val (.int (own_lt (own_c (own_set (0 : Int64) pa pb 0)) (1 : Int32))), .unset, .unset, .unset, .unset, .unset, .unset] [(.int qb), (.int qa), (.ref sq)]))
  refine own_by (fun t kk_ => XS.iload X26.here hx rfl (hb hby at_240) rfl  kk_) ?_
  show OwnG p e below s _ _ _ (T26.setTop (mkF m 242 #[.val (.int va), .val (.int vb), .val (.int vc), .val (.int vd), .val (.int ve), .val (.int (1 : Int32)), .val (.int (1 : Int32)), .val (.int (2 : Int32)), .val (.int ds), .val (.int te), .val (.int pa), .val (.int pb), .val (.int qa), .val (.int qb), .val (.int qc), .val (.ref lk), .val (.ref sq), .val (.int (own_lt (own_c (own_set (0 : Int64) pa pb 0)) (1 : Int32))), .unset, .unset, .unset, .unset, .unset, .unset] [(.int qc), (.int qb), (.int qa), (.ref sq)]))
  refine own_by (fun t kk_ => XS.iload X26.here hx rfl (hb hby at_242) rfl  kk_) ?_
  show OwnG p e below s _ _ _ (T26.setTop (mkF m 244 #[.val (.int va), .val (.int vb), .val (.int vc), .val (.int vd), .val (.int ve), .val (.int (1 : Int32)), .val (.int (1 : Int32)), .val (.int (2 : Int32)), .val (.int ds), .val (.int te), .val (.int pa), .val (.int pb), .val (.int qa), .val (.int qb), .val (.int qc), .val (.ref lk), .val (.ref sq), .val (.int (own_lt (own_c (own_set (0 : Int64) pa pb 0)) (1 : Int32))), .unset, .unset, .unset, .unset, .unset, .unset] [(.int ds), (.int qc), (.int qb), (.int qa), (.ref sq)]))
  refine own_by (fun t kk_ => XS.aload X26.here hx rfl (hb hby at_244) rfl rfl kk_) ?_
  show OwnG p e below s _ _ _ (T26.setTop (mkF m 246 #[.val (.int va), .val (.int vb), .val (.int vc), .val (.int vd), .val (.int ve), .val (.int (1 : Int32)), .val (.int (1 : Int32)), .val (.int (2 : Int32)), .val (.int ds), .val (.int te), .val (.int pa), .val (.int pb), .val (.int qa), .val (.int qb), .val (.int qc), .val (.ref lk), .val (.ref sq), .val (.int (own_lt (own_c (own_set (0 : Int64) pa pb 0)) (1 : Int32))), .unset, .unset, .unset, .unset, .unset, .unset] [(.ref lk), (.int ds), (.int qc), (.int qb), (.int qa), (.ref sq)]))
  obtain ⟨_, _, ⟨T27, L27, k27, n27⟩, -, X27, ⟨Lc27, hQ27, l27, y27, z27⟩, st27⟩ := Jvm.LawKit.callS X26 hx (y := (⟨"com/example/score_on_crawl/scoreoncrawl/engine/BreadthFirstSequenceHasNextPinLaw", "fetchThree", "(Lcom/example/score_on_crawl/scoreoncrawl/engine/BreadthFirstSequence;ZZZZ[I)V"⟩ : MethodName)) hown (mvT hZ (hw _ (List.mem_of_getElem? (i := 62) rfl))) (mvT hZ (hw _ (List.mem_of_getElem? (i := 63) rfl))) (mvT hZ (hw _ (List.mem_of_getElem? (i := 46) rfl))) (mvT hZ (hw _ (List.mem_of_getElem? (i := 64) rfl))) (by decide) (backOf (W := 0) (rm10 l Z a0 hw [] sq fp bs wa lk (2 : Int32) (own_c (own_set (0 : Int64) pa pb 0)) u13 qa qb qc ds (own_set (0 : Int64) pa pb 0) T26.heap n0 sz26 ⟨S26.1, S26.2.1, S26.2.2.1, S26.2.2.2.1, ⟨S26.2.2.2.2.1, S26.2.2.2.2.2.1, ⟨S26.2.2.2.2.2.2.1, S26.2.2.2.2.2.2.2.1, S26.2.2.2.2.2.2.2.2.1, S26.2.2.2.2.2.2.2.2.2.1, S26.2.2.2.2.2.2.2.2.2.2⟩⟩⟩ Nn hu13 hm13 rfl) hZ (hw _ (List.mem_of_getElem? (i := 64) rfl)) (hw _ (List.mem_of_getElem? (i := 46) rfl)) (by decide) (by decide)) (g := (mkF m 246 #[.val (.int va), .val (.int vb), .val (.int vc), .val (.int vd), .val (.int ve), .val (.int (1 : Int32)), .val (.int (1 : Int32)), .val (.int (2 : Int32)), .val (.int ds), .val (.int te), .val (.int pa), .val (.int pb), .val (.int qa), .val (.int qb), .val (.int qc), .val (.ref lk), .val (.ref sq), .val (.int (own_lt (own_c (own_set (0 : Int64) pa pb 0)) (1 : Int32))), .unset, .unset, .unset, .unset, .unset, .unset] [(.ref lk), (.int ds), (.int qc), (.int qb), (.int qa), (.ref sq)])) rfl (by rw [hml]; rfl) (argsL := [(.ref sq), (.int qa), (.int qb), (.int qc), (.int ds), (.ref lk)]) (rest := []) (lenOf pd_8 rfl) rfl (by show 2 * 0 + _ ≤ _; exact Nat.le_of_eq rfl) (hb hby at_246) (fun _ _ => ⟨rfl, (rfl : T26.heap = T26.heap), (by decide : 0 + 1 + 1 + 3 + 0 ≤ _), (by decide : 0 + 3 + 5 + 0 ≤ _)⟩)
  dsimp only [Pt.U, Pt.locs, Pt.cells, Pt.slots] at X27 l27 y27 z27 st27 hQ27
  subst l27 y27 z27
  refine own_by (fun t kk_ => st27 _ kk_) ?_
  obtain ⟨rfl, N27q, u27, hm27, hu27, S27⟩ := hQ27
  have N27 := Fr.app N26 N27q
  have sz27 : n0 ≤ T27.heap.size := Nat.le_trans Nn.1 (Nat.le_of_lt (Exa.lt S27.1))
  show OwnG p e below s _ _ _ (T27.setTop (mkF m 249 #[.val (.int va), .val (.int vb), .val (.int vc), .val (.int vd), .val (.int ve), .val (.int (1 : Int32)), .val (.int (1 : Int32)), .val (.int (2 : Int32)), .val (.int ds), .val (.int te), .val (.int pa), .val (.int pb), .val (.int qa), .val (.int qb), .val (.int qc), .val (.ref lk), .val (.ref sq), .val (.int (own_lt (own_c (own_set (0 : Int64) pa pb 0)) (1 : Int32))), .unset, .unset, .unset, .unset, .unset, .unset] []))
  refine own_by (fun t kk_ => XS.aload X27.here hx rfl (hb hby at_249) rfl rfl kk_) ?_
  show OwnG p e below s _ _ _ (T27.setTop (mkF m 251 #[.val (.int va), .val (.int vb), .val (.int vc), .val (.int vd), .val (.int ve), .val (.int (1 : Int32)), .val (.int (1 : Int32)), .val (.int (2 : Int32)), .val (.int ds), .val (.int te), .val (.int pa), .val (.int pb), .val (.int qa), .val (.int qb), .val (.int qc), .val (.ref lk), .val (.ref sq), .val (.int (own_lt (own_c (own_set (0 : Int64) pa pb 0)) (1 : Int32))), .unset, .unset, .unset, .unset, .unset, .unset] [(.ref sq)]))
  obtain ⟨cq28, kq28, q28a, q28b, q28c⟩ := isOf hZ (rfl : T27.heap = T27.heap) S27.1
  obtain ⟨_, _, ⟨T28, L28, k28, n28⟩, -, X28, ⟨Lc28, hQ28, l28, y28, z28⟩, st28⟩ := X27.virtualBack hx (y := (⟨"com/example/score_on_crawl/scoreoncrawl/engine/BreadthFirstSequence", "hasNext", "()Z"⟩ : MethodName)) (z := (⟨"com/example/score_on_crawl/scoreoncrawl/engine/BreadthFirstSequence", "hasNext", "()Z"⟩ : MethodName)) hown (mvT hZ (hw _ (List.mem_of_getElem? (i := 48) rfl))) (mvT hZ (hw _ (List.mem_of_getElem? (i := 49) rfl))) (notFace_of_selects (args := #[]) (mvT hZ (hw _ (List.mem_of_getElem? (i := 51) rfl)))) (mvT hZ (hw _ (List.mem_of_getElem? (i := 51) rfl))) (mvT hZ (hw _ (List.mem_of_getElem? (i := 50) rfl))) (by decide) (backOf (W := 0) (rm8 l Z a0 hw [] sq fp bs wa (2 : Int32) (own_c (own_set (own_set (0 : Int64) pa pb 0) qa qb qc)) u27 (own_set (own_set (0 : Int64) pa pb 0) qa qb qc) T27.heap n0 sz27 ⟨S27.1, S27.2.1, S27.2.2.1, S27.2.2.2.1, ⟨S27.2.2.2.2.1, S27.2.2.2.2.2.1, ⟨S27.2.2.2.2.2.2.1, S27.2.2.2.2.2.2.2.1, S27.2.2.2.2.2.2.2.2.1, S27.2.2.2.2.2.2.2.2.2.1, S27.2.2.2.2.2.2.2.2.2.2⟩⟩⟩) hZ (hw _ (List.mem_of_getElem? (i := 52) rfl)) (hw _ (List.mem_of_getElem? (i := 4) rfl)) (by decide) (by decide)) q28a q28c (g := (mkF m 251 #[.val (.int va), .val (.int vb), .val (.int vc), .val (.int vd), .val (.int ve), .val (.int (1 : Int32)), .val (.int (1 : Int32)), .val (.int (2 : Int32)), .val (.int ds), .val (.int te), .val (.int pa), .val (.int pb), .val (.int qa), .val (.int qb), .val (.int qc), .val (.ref lk), .val (.ref sq), .val (.int (own_lt (own_c (own_set (0 : Int64) pa pb 0)) (1 : Int32))), .unset, .unset, .unset, .unset, .unset, .unset] [(.ref sq)])) rfl (by rw [hml]; rfl) (Steps.refl _) (argsL := []) (rest := []) (lenOf pd_7 rfl) rfl (by show 2 * 0 + _ ≤ _; exact Nat.le_of_eq rfl) (hb hby at_251) (fun _ _ => ⟨rfl, (rfl : T27.heap = T27.heap), (by decide : 0 + 1 + 1 + 3 + 0 ≤ _), (by decide : 0 + 3 + 5 + 0 ≤ _)⟩)
  dsimp only [Pt.U, Pt.locs, Pt.cells, Pt.slots] at X28 l28 y28 z28 st28 hQ28
  subst l28 y28 z28
  refine own_by (fun t kk_ => st28.trans kk_) ?_
  obtain ⟨rfl, N28q, hh28⟩ := hQ28
  have N28 := Fr.app N27 N28q
  have f29 := S27.1
  rw [← hh28] at f29
  have f30 := S27.2.1
  rw [← hh28] at f30
  have f31 := S27.2.2.1
  rw [← hh28] at f31
  have f32 := S27.2.2.2.1
  rw [← hh28] at f32
  have f33 := S27.2.2.2.2.1
  rw [← hh28] at f33
  have f34 := S27.2.2.2.2.2.1
  rw [← hh28] at f34
  have f35 := S27.2.2.2.2.2.2.1
  rw [← hh28] at f35
  have f36 := S27.2.2.2.2.2.2.2.1
  rw [← hh28] at f36
  have f37 := S27.2.2.2.2.2.2.2.2.1
  rw [← hh28] at f37
  have f38 := S27.2.2.2.2.2.2.2.2.2.1
  rw [← hh28] at f38
  have f39 := S27.2.2.2.2.2.2.2.2.2.2
  rw [← hh28] at f39
  have sz28 : n0 ≤ T28.heap.size := by rw [hh28]; exact sz27
  show OwnG p e below s _ _ _ (T28.setTop (mkF m 254 #[.val (.int va), .val (.int vb), .val (.int vc), .val (.int vd), .val (.int ve), .val (.int (1 : Int32)), .val (.int (1 : Int32)), .val (.int (2 : Int32)), .val (.int ds), .val (.int te), .val (.int pa), .val (.int pb), .val (.int qa), .val (.int qb), .val (.int qc), .val (.ref lk), .val (.ref sq), .val (.int (own_lt (own_c (own_set (0 : Int64) pa pb 0)) (1 : Int32))), .unset, .unset, .unset, .unset, .unset, .unset] [(.int (own_lt (own_c (own_set (own_set (0 : Int64) pa pb 0) qa qb qc)) (2 : Int32)))]))
  refine own_by (fun t kk_ => XS.istore X28.here hx rfl (hb hby at_254) rfl (l' := #[.val (.int va), .val (.int vb), .val (.int vc), .val (.int vd), .val (.int ve), .val (.int (1 : Int32)), .val (.int (1 : Int32)), .val (.int (2 : Int32)), .val (.int ds), .val (.int te), .val (.int pa), .val (.int pb), .val (.int qa), .val (.int qb), .val (.int qc), .val (.ref lk), .val (.ref sq), .val (.int (own_lt (own_c (own_set (0 : Int64) pa pb 0)) (1 : Int32))), .val (.int (own_lt (own_c (own_set (own_set (0 : Int64) pa pb 0) qa qb qc)) (2 : Int32))), .unset, .unset, .unset, .unset, .unset]) rfl kk_) ?_
  show OwnG p e below s _ _ _ (T28.setTop (mkF m 256 #[.val (.int va), .val (.int vb), .val (.int vc), .val (.int vd), .val (.int ve), .val (.int (1 : Int32)), .val (.int (1 : Int32)), .val (.int (2 : Int32)), .val (.int ds), .val (.int te), .val (.int pa), .val (.int pb), .val (.int qa), .val (.int qb), .val (.int qc), .val (.ref lk), .val (.ref sq), .val (.int (own_lt (own_c (own_set (0 : Int64) pa pb 0)) (1 : Int32))), .val (.int (own_lt (own_c (own_set (own_set (0 : Int64) pa pb 0) qa qb qc)) (2 : Int32))), .unset, .unset, .unset, .unset, .unset] []))
  exact own_t256 va vb vc vd ve (1 : Int32) (1 : Int32) (2 : Int32) ds te pa pb qa qb qc _ _ lk sq X28 hx hby hml hret hlk hown hnm hZ hw (rfl : T28.heap = T28.heap) N28 sz28 (own_h1 (Or.inr (Or.inl rfl)) za zb) (own_h2 (Or.inr (Or.inr (Or.inl rfl))) za zb zc zd ze)
set_option maxRecDepth 65536 in
set_option maxHeartbeats 40000000 in
theorem own_m20 {p : Program} {l : Launch} {e : Env} {s : State} {m : MethodId} {args : Array Value} {below : List Frame} {meth : Method} {c : Code} {T0 : State} {locs : List Loc} {Z : State} {a0 : Array Value} {h0 : Heap} {n0 : Nat} (va vb vc vd ve ds te pa pb qa qb qc : Int32) (X0 : Stand p l e room_1 s m args below meth c T0 locs (0) (0)) (hx : p.tables.exec = Jvm.exec) (hby : c.code = code) (hml : c.maxLocals = 24) (hret : meth.sig.returnType = some .boolean) (hlk : meth.locks = false) (hown : s.vm.findClass "com/example/score_on_crawl/scoreoncrawl/engine/BreadthFirstSequenceHasNextPinLaw" = some m.cls) (hnm : meth.name = "law") (hZ : Z.Warmed39 s.vm) (hw : ∀ d ∈ tables_1, d.before a0 Z = true) (e0 : T0.heap = h0) (N0 : Fr n0 locs) (Z0 : n0 ≤ h0.size) (SA : Sta Z h0 "java/util/BitSet" "$assertionsDisabled" "Z" (.int (1 : Int32))) (za : own_z pa) (zb : own_z pb) (zc : own_z qa) (zd : own_z qb) (ze : own_z qc) :
    OwnG p e below s (fun v h L => v = some (.int (1 : Int32)) ∧ Fr n0 L) room_1.cells room_1.slots (T0.setTop (mkF m 151 #[.val (.int va), .val (.int vb), .val (.int vc), .val (.int vd), .val (.int ve), .val (.int (2 : Int32)), .val (.int (0 : Int32)), .val (.int (2 : Int32)), .val (.int ds), .val (.int te), .val (.int pa), .val (.int pb), .val (.int qa), .val (.int qb), .val (.int qc), .unset, .unset, .unset, .unset, .unset, .unset, .unset, .unset, .unset] [])) := by
  show OwnG p e below s _ _ _ (T0.setTop (mkF m 151 #[.val (.int va), .val (.int vb), .val (.int vc), .val (.int vd), .val (.int ve), .val (.int (2 : Int32)), .val (.int (0 : Int32)), .val (.int (2 : Int32)), .val (.int ds), .val (.int te), .val (.int pa), .val (.int pb), .val (.int qa), .val (.int qb), .val (.int qc), .unset, .unset, .unset, .unset, .unset, .unset, .unset, .unset, .unset] []))
  refine own_by (fun t kk_ => XS.iconst X0.here hx rfl (hb hby at_151) kk_) ?_
  show OwnG p e below s _ _ _ (T0.setTop (mkF m 152 #[.val (.int va), .val (.int vb), .val (.int vc), .val (.int vd), .val (.int ve), .val (.int (2 : Int32)), .val (.int (0 : Int32)), .val (.int (2 : Int32)), .val (.int ds), .val (.int te), .val (.int pa), .val (.int pb), .val (.int qa), .val (.int qb), .val (.int qc), .unset, .unset, .unset, .unset, .unset, .unset, .unset, .unset, .unset] [(.int (0 : Int32))]))
  obtain ⟨T1, h1, k1, X1, e1, E1, A1, st1⟩ := newP X0 hx hZ (hw _ (List.mem_of_getElem? (i := 1) rfl)) e0 (g := (mkF m 152 #[.val (.int va), .val (.int vb), .val (.int vc), .val (.int vd), .val (.int ve), .val (.int (2 : Int32)), .val (.int (0 : Int32)), .val (.int (2 : Int32)), .val (.int ds), .val (.int te), .val (.int pa), .val (.int pb), .val (.int qa), .val (.int qb), .val (.int qc), .unset, .unset, .unset, .unset, .unset, .unset, .unset, .unset, .unset] [(.int (0 : Int32))])) rfl (hb hby at_152) rfl (by decide) (cap := 0) (by decide) (by decide) (by decide) (by decide)
  obtain ⟨lk, g1⟩ : ∃ z, z = h0.size := ⟨_, rfl⟩
  rw [← g1] at A1 st1
  have gg_lk : n0 ≤ lk := by rw [g1]; exact Z0
  have sz1 : n0 ≤ h1.size := Nat.le_trans Z0 E1.1
  refine own_by (fun t kk_ => st1 _ kk_) ?_
  have f2 := Sta.ext E1 SA
  have f3 : OwnA Z h1 lk .int 0 (fun _ => (defaultValue .int)) := OwnA.new A1 (n := 0) (by decide) rfl
  show OwnG p e below s _ _ _ (T1.setTop (mkF m 154 #[.val (.int va), .val (.int vb), .val (.int vc), .val (.int vd), .val (.int ve), .val (.int (2 : Int32)), .val (.int (0 : Int32)), .val (.int (2 : Int32)), .val (.int ds), .val (.int te), .val (.int pa), .val (.int pb), .val (.int qa), .val (.int qb), .val (.int qc), .unset, .unset, .unset, .unset, .unset, .unset, .unset, .unset, .unset] [(.ref lk)]))
  refine own_by (fun t kk_ => XS.astore X1.here hx rfl (hb hby at_154) rfl rfl (l' := #[.val (.int va), .val (.int vb), .val (.int vc), .val (.int vd), .val (.int ve), .val (.int (2 : Int32)), .val (.int (0 : Int32)), .val (.int (2 : Int32)), .val (.int ds), .val (.int te), .val (.int pa), .val (.int pb), .val (.int qa), .val (.int qb), .val (.int qc), .val (.ref lk), .unset, .unset, .unset, .unset, .unset, .unset, .unset, .unset]) rfl kk_) ?_
  show OwnG p e below s _ _ _ (T1.setTop (mkF m 156 #[.val (.int va), .val (.int vb), .val (.int vc), .val (.int vd), .val (.int ve), .val (.int (2 : Int32)), .val (.int (0 : Int32)), .val (.int (2 : Int32)), .val (.int ds), .val (.int te), .val (.int pa), .val (.int pb), .val (.int qa), .val (.int qb), .val (.int qc), .val (.ref lk), .unset, .unset, .unset, .unset, .unset, .unset, .unset, .unset] []))
  obtain ⟨T4, h4, X4, e4, E4, A4, D4, -, st4⟩ := newO X1 hx hZ hown (hw _ (List.mem_of_getElem? (i := 2) rfl)) (hw _ (List.mem_of_getElem? (i := 3) rfl)) (hw _ (List.mem_of_getElem? (i := 4) rfl)) e1 (g := (mkF m 156 #[.val (.int va), .val (.int vb), .val (.int vc), .val (.int vd), .val (.int ve), .val (.int (2 : Int32)), .val (.int (0 : Int32)), .val (.int (2 : Int32)), .val (.int ds), .val (.int te), .val (.int pa), .val (.int pb), .val (.int qa), .val (.int qb), .val (.int qc), .val (.ref lk), .unset, .unset, .unset, .unset, .unset, .unset, .unset, .unset] [])) rfl (hb hby at_156) (by decide) (by decide)
  obtain ⟨sq, g4⟩ : ∃ z, z = h1.size := ⟨_, rfl⟩
  rw [← g4] at A4 D4 st4
  have ne5 : lk ≠ sq := fun q => absurd f3.lt (by rw [q, g4]; exact Nat.lt_irrefl _)
  have gg_sq : n0 ≤ sq := by rw [g4]; exact sz1
  have sz4 : n0 ≤ h4.size := Nat.le_trans sz1 E4.1
  refine own_by (fun t kk_ => st4 _ kk_) ?_
  have f6 := Sta.ext E4 f2
  have f7 := OwnA.ext E4 f3
  have f8 : Fld Z h4 sq "com/example/score_on_crawl/scoreoncrawl/engine/BreadthFirstSequence" "fetched" "Lcom/example/score_on_crawl/scoreoncrawl/engine/FetchedPages;" .null := D4 (Or.inr (hw _ (List.mem_of_getElem? (i := 43) rfl))) (ty := (.object "com/example/score_on_crawl/scoreoncrawl/engine/FetchedPages")) (by decide)
  have f9 : Fld Z h4 sq "com/example/score_on_crawl/scoreoncrawl/engine/BreadthFirstSequence" "cursor" "I" (.int (0 : Int32)) := D4 (Or.inl (hw _ (List.mem_of_getElem? (i := 54) rfl))) (ty := .int) (by decide)
  have f10 : Fld Z h4 sq "com/example/score_on_crawl/scoreoncrawl/engine/BreadthFirstSequence" "pages" "I" (.int (0 : Int32)) := D4 (Or.inl (hw _ (List.mem_of_getElem? (i := 56) rfl))) (ty := .int) (by decide)
  show OwnG p e below s _ _ _ (T4.setTop (mkF m 159 #[.val (.int va), .val (.int vb), .val (.int vc), .val (.int vd), .val (.int ve), .val (.int (2 : Int32)), .val (.int (0 : Int32)), .val (.int (2 : Int32)), .val (.int ds), .val (.int te), .val (.int pa), .val (.int pb), .val (.int qa), .val (.int qb), .val (.int qc), .val (.ref lk), .unset, .unset, .unset, .unset, .unset, .unset, .unset, .unset] [(.ref sq)]))
  refine own_by (fun t kk_ => XS.dup X4.here hx rfl (hb hby at_159) rfl rfl kk_) ?_
  show OwnG p e below s _ _ _ (T4.setTop (mkF m 160 #[.val (.int va), .val (.int vb), .val (.int vc), .val (.int vd), .val (.int ve), .val (.int (2 : Int32)), .val (.int (0 : Int32)), .val (.int (2 : Int32)), .val (.int ds), .val (.int te), .val (.int pa), .val (.int pb), .val (.int qa), .val (.int qb), .val (.int qc), .val (.ref lk), .unset, .unset, .unset, .unset, .unset, .unset, .unset, .unset] [(.ref sq), (.ref sq)]))
  obtain ⟨_, _, ⟨T11, L11, k11, n11⟩, -, X11, ⟨Lc11, hQ11, l11, y11, z11⟩, st11⟩ := X4.specialBack hx (y := (⟨"com/example/score_on_crawl/scoreoncrawl/engine/BreadthFirstSequence", "<init>", "()V"⟩ : MethodName)) rfl hown (mvT hZ (hw _ (List.mem_of_getElem? (i := 5) rfl))) (mvT hZ (hw _ (List.mem_of_getElem? (i := 6) rfl))) (mvT hZ (hw _ (List.mem_of_getElem? (i := 7) rfl))) (by decide) (backOf (W := 1) (rm1 l Z a0 hw [] sq h4 n0 sz4 A4 f8 f10 f9 f6 gg_sq) hZ (hw _ (List.mem_of_getElem? (i := 7) rfl)) (hw _ (List.mem_of_getElem? (i := 4) rfl)) (by decide) (by decide)) (g := (mkF m 160 #[.val (.int va), .val (.int vb), .val (.int vc), .val (.int vd), .val (.int ve), .val (.int (2 : Int32)), .val (.int (0 : Int32)), .val (.int (2 : Int32)), .val (.int ds), .val (.int te), .val (.int pa), .val (.int pb), .val (.int qa), .val (.int qb), .val (.int qc), .val (.ref lk), .unset, .unset, .unset, .unset, .unset, .unset, .unset, .unset] [(.ref sq), (.ref sq)])) rfl (by rw [hml]; rfl) (Steps.refl _) (a := sq) (argsL := []) (rest := [(.ref sq)]) (lenOf pd_2 rfl) rfl (by show 2 * 0 + _ ≤ _; exact Nat.le_of_eq rfl) (hb hby at_160) (fun _ _ => ⟨rfl, e4, (by decide : 0 + 1 + 1 + 3 ≤ _), (by decide : 0 + 3 + 5 ≤ _)⟩)
  dsimp only [Pt.U, Pt.locs, Pt.cells, Pt.slots] at X11 l11 y11 z11 st11 hQ11
  subst l11 y11 z11
  refine own_by (fun t kk_ => st11.trans kk_) ?_
  obtain ⟨rfl, N11q, fp, bs, wa, S11, Nn⟩ := hQ11
  have N11 := Fr.app N0 N11q
  have sz11 : n0 ≤ T11.heap.size := Nat.le_trans Nn.1 (Nat.le_of_lt (Exa.lt S11.1))
  show OwnG p e below s _ _ _ (T11.setTop (mkF m 163 #[.val (.int va), .val (.int vb), .val (.int vc), .val (.int vd), .val (.int ve), .val (.int (2 : Int32)), .val (.int (0 : Int32)), .val (.int (2 : Int32)), .val (.int ds), .val (.int te), .val (.int pa), .val (.int pb), .val (.int qa), .val (.int qb), .val (.int qc), .val (.ref lk), .unset, .unset, .unset, .unset, .unset, .unset, .unset, .unset] [(.ref sq)]))
  refine own_by (fun t kk_ => XS.astore X11.here hx rfl (hb hby at_163) rfl rfl (l' := #[.val (.int va), .val (.int vb), .val (.int vc), .val (.int vd), .val (.int ve), .val (.int (2 : Int32)), .val (.int (0 : Int32)), .val (.int (2 : Int32)), .val (.int ds), .val (.int te), .val (.int pa), .val (.int pb), .val (.int qa), .val (.int qb), .val (.int qc), .val (.ref lk), .val (.ref sq), .unset, .unset, .unset, .unset, .unset, .unset, .unset]) rfl kk_) ?_
  show OwnG p e below s _ _ _ (T11.setTop (mkF m 165 #[.val (.int va), .val (.int vb), .val (.int vc), .val (.int vd), .val (.int ve), .val (.int (2 : Int32)), .val (.int (0 : Int32)), .val (.int (2 : Int32)), .val (.int ds), .val (.int te), .val (.int pa), .val (.int pb), .val (.int qa), .val (.int qb), .val (.int qc), .val (.ref lk), .val (.ref sq), .unset, .unset, .unset, .unset, .unset, .unset, .unset] []))
  refine own_by (fun t kk_ => XS.iload X11.here hx rfl (hb hby at_165) rfl  kk_) ?_
  show OwnG p e below s _ _ _ (T11.setTop (mkF m 167 #[.val (.int va), .val (.int vb), .val (.int vc), .val (.int vd), .val (.int ve), .val (.int (2 : Int32)), .val (.int (0 : Int32)), .val (.int (2 : Int32)), .val (.int ds), .val (.int te), .val (.int pa), .val (.int pb), .val (.int qa), .val (.int qb), .val (.int qc), .val (.ref lk), .val (.ref sq), .unset, .unset, .unset, .unset, .unset, .unset, .unset] [(.int (2 : Int32))]))
  refine own_by (fun t kk_ => XS.ifNo X11.here hx rfl (hb hby at_167) rfl ((if0 _ _).trans (tlt (by decide)).2.2.2) kk_) ?_
  show OwnG p e below s _ _ _ (T11.setTop (mkF m 170 #[.val (.int va), .val (.int vb), .val (.int vc), .val (.int vd), .val (.int ve), .val (.int (2 : Int32)), .val (.int (0 : Int32)), .val (.int (2 : Int32)), .val (.int ds), .val (.int te), .val (.int pa), .val (.int pb), .val (.int qa), .val (.int qb), .val (.int qc), .val (.ref lk), .val (.ref sq), .unset, .unset, .unset, .unset, .unset, .unset, .unset] []))
  refine own_by (fun t kk_ => XS.aload X11.here hx rfl (hb hby at_170) rfl rfl kk_) ?_
  show OwnG p e below s _ _ _ (T11.setTop (mkF m 172 #[.val (.int va), .val (.int vb), .val (.int vc), .val (.int vd), .val (.int ve), .val (.int (2 : Int32)), .val (.int (0 : Int32)), .val (.int (2 : Int32)), .val (.int ds), .val (.int te), .val (.int pa), .val (.int pb), .val (.int qa), .val (.int qb), .val (.int qc), .val (.ref lk), .val (.ref sq), .unset, .unset, .unset, .unset, .unset, .unset, .unset] [(.ref sq)]))
  refine own_by (fun t kk_ => XS.iconst X11.here hx rfl (hb hby at_172) kk_) ?_
  show OwnG p e below s _ _ _ (T11.setTop (mkF m 173 #[.val (.int va), .val (.int vb), .val (.int vc), .val (.int vd), .val (.int ve), .val (.int (2 : Int32)), .val (.int (0 : Int32)), .val (.int (2 : Int32)), .val (.int ds), .val (.int te), .val (.int pa), .val (.int pb), .val (.int qa), .val (.int qb), .val (.int qc), .val (.ref lk), .val (.ref sq), .unset, .unset, .unset, .unset, .unset, .unset, .unset] [(.int (0 : Int32)), (.ref sq)]))
  refine own_by (fun t kk_ => XS.iload X11.here hx rfl (hb hby at_173) rfl  kk_) ?_
  show OwnG p e below s _ _ _ (T11.setTop (mkF m 175 #[.val (.int va), .val (.int vb), .val (.int vc), .val (.int vd), .val (.int ve), .val (.int (2 : Int32)), .val (.int (0 : Int32)), .val (.int (2 : Int32)), .val (.int ds), .val (.int te), .val (.int pa), .val (.int pb), .val (.int qa), .val (.int qb), .val (.int qc), .val (.ref lk), .val (.ref sq), .unset, .unset, .unset, .unset, .unset, .unset, .unset] [(.int te), (.int (0 : Int32)), (.ref sq)]))
  obtain ⟨cq12, kq12, q12a, q12b, q12c⟩ := isOf hZ (rfl : T11.heap = T11.heap) S11.1
  obtain ⟨_, _, ⟨T12, L12, k12, n12⟩, -, X12, ⟨Lc12, hQ12, l12, y12, z12⟩, st12⟩ := X11.virtualBack hx (y := (⟨"com/example/score_on_crawl/scoreoncrawl/engine/BreadthFirstSequence", "added", "(IZ)V"⟩ : MethodName)) (z := (⟨"com/example/score_on_crawl/scoreoncrawl/engine/BreadthFirstSequence", "added", "(IZ)V"⟩ : MethodName)) hown (mvT hZ (hw _ (List.mem_of_getElem? (i := 57) rfl))) (mvT hZ (hw _ (List.mem_of_getElem? (i := 58) rfl))) (notFace_of_selects (args := #[]) (mvT hZ (hw _ (List.mem_of_getElem? (i := 60) rfl)))) (mvT hZ (hw _ (List.mem_of_getElem? (i := 60) rfl))) (mvT hZ (hw _ (List.mem_of_getElem? (i := 59) rfl))) (by decide) (backOf (W := 0) (rm9 l Z a0 hw [] sq fp bs wa (0 : Int32) (0 : Int32) (0 : Int32) (0 : Int32) te (1 : Int32) (0 : Int64) T11.heap n0 sz11 ⟨S11.1, S11.2.1, S11.2.2.1, S11.2.2.2.1, ⟨S11.2.2.2.2.1, S11.2.2.2.2.2.1, ⟨S11.2.2.2.2.2.2.1, S11.2.2.2.2.2.2.2.1, S11.2.2.2.2.2.2.2.2.1, S11.2.2.2.2.2.2.2.2.2.1, S11.2.2.2.2.2.2.2.2.2.2⟩⟩⟩ Nn (by decide)) hZ (hw _ (List.mem_of_getElem? (i := 61) rfl)) (hw _ (List.mem_of_getElem? (i := 4) rfl)) (by decide) (by decide)) q12a q12c (g := (mkF m 175 #[.val (.int va), .val (.int vb), .val (.int vc), .val (.int vd), .val (.int ve), .val (.int (2 : Int32)), .val (.int (0 : Int32)), .val (.int (2 : Int32)), .val (.int ds), .val (.int te), .val (.int pa), .val (.int pb), .val (.int qa), .val (.int qb), .val (.int qc), .val (.ref lk), .val (.ref sq), .unset, .unset, .unset, .unset, .unset, .unset, .unset] [(.int te), (.int (0 : Int32)), (.ref sq)])) rfl (by rw [hml]; rfl) (Steps.refl _) (argsL := [(.int (0 : Int32)), (.int te)]) (rest := []) (lenOf pd_5 rfl) rfl (by show 2 * 0 + _ ≤ _; exact Nat.le_of_eq rfl) (hb hby at_175) (fun _ _ => ⟨rfl, (rfl : T11.heap = T11.heap), (by decide : 0 + 1 + 1 + 3 + 0 ≤ _), (by decide : 0 + 3 + 5 + 0 ≤ _)⟩)
  dsimp only [Pt.U, Pt.locs, Pt.cells, Pt.slots] at X12 l12 y12 z12 st12 hQ12
  subst l12 y12 z12
  refine own_by (fun t kk_ => st12.trans kk_) ?_
  obtain ⟨rfl, N12q, S12⟩ := hQ12
  have N12 := Fr.app N11 N12q
  have sz12 : n0 ≤ T12.heap.size := Nat.le_trans Nn.1 (Nat.le_of_lt (Exa.lt S12.1))
  show OwnG p e below s _ _ _ (T12.setTop (mkF m 178 #[.val (.int va), .val (.int vb), .val (.int vc), .val (.int vd), .val (.int ve), .val (.int (2 : Int32)), .val (.int (0 : Int32)), .val (.int (2 : Int32)), .val (.int ds), .val (.int te), .val (.int pa), .val (.int pb), .val (.int qa), .val (.int qb), .val (.int qc), .val (.ref lk), .val (.ref sq), .unset, .unset, .unset, .unset, .unset, .unset, .unset] []))
  refine own_by (fun t kk_ => XS.iload X12.here hx rfl (hb hby at_178) rfl  kk_) ?_
  show OwnG p e below s _ _ _ (T12.setTop (mkF m 180 #[.val (.int va), .val (.int vb), .val (.int vc), .val (.int vd), .val (.int ve), .val (.int (2 : Int32)), .val (.int (0 : Int32)), .val (.int (2 : Int32)), .val (.int ds), .val (.int te), .val (.int pa), .val (.int pb), .val (.int qa), .val (.int qb), .val (.int qc), .val (.ref lk), .val (.ref sq), .unset, .unset, .unset, .unset, .unset, .unset, .unset] [(.int (2 : Int32))]))
  refine own_by (fun t kk_ => XS.iconst X12.here hx rfl (hb hby at_180) kk_) ?_
  show OwnG p e below s _ _ _ (T12.setTop (mkF m 181 #[.val (.int va), .val (.int vb), .val (.int vc), .val (.int vd), .val (.int ve), .val (.int (2 : Int32)), .val (.int (0 : Int32)), .val (.int (2 : Int32)), .val (.int ds), .val (.int te), .val (.int pa), .val (.int pb), .val (.int qa), .val (.int qb), .val (.int qc), .val (.ref lk), .val (.ref sq), .unset, .unset, .unset, .unset, .unset, .unset, .unset] [(.int (1 : Int32)), (.int (2 : Int32))]))
  refine own_by (fun t kk_ => XS.icmpNo X12.here hx rfl (hb hby at_181) rfl (tlt (by decide)).2.2.2 kk_) ?_
  show OwnG p e below s _ _ _ (T12.setTop (mkF m 184 #[.val (.int va), .val (.int vb), .val (.int vc), .val (.int vd), .val (.int ve), .val (.int (2 : Int32)), .val (.int (0 : Int32)), .val (.int (2 : Int32)), .val (.int ds), .val (.int te), .val (.int pa), .val (.int pb), .val (.int qa), .val (.int qb), .val (.int qc), .val (.ref lk), .val (.ref sq), .unset, .unset, .unset, .unset, .unset, .unset, .unset] []))
  refine own_by (fun t kk_ => XS.aload X12.here hx rfl (hb hby at_184) rfl rfl kk_) ?_
  show OwnG p e below s _ _ _ (T12.setTop (mkF m 186 #[.val (.int va), .val (.int vb), .val (.int vc), .val (.int vd), .val (.int ve), .val (.int (2 : Int32)), .val (.int (0 : Int32)), .val (.int (2 : Int32)), .val (.int ds), .val (.int te), .val (.int pa), .val (.int pb), .val (.int qa), .val (.int qb), .val (.int qc), .val (.ref lk), .val (.ref sq), .unset, .unset, .unset, .unset, .unset, .unset, .unset] [(.ref sq)]))
  refine own_by (fun t kk_ => XS.iconst X12.here hx rfl (hb hby at_186) kk_) ?_
  show OwnG p e below s _ _ _ (T12.setTop (mkF m 187 #[.val (.int va), .val (.int vb), .val (.int vc), .val (.int vd), .val (.int ve), .val (.int (2 : Int32)), .val (.int (0 : Int32)), .val (.int (2 : Int32)), .val (.int ds), .val (.int te), .val (.int pa), .val (.int pb), .val (.int qa), .val (.int qb), .val (.int qc), .val (.ref lk), .val (.ref sq), .unset, .unset, .unset, .unset, .unset, .unset, .unset] [(.int (1 : Int32)), (.ref sq)]))
  refine own_by (fun t kk_ => XS.iload X12.here hx rfl (hb hby at_187) rfl  kk_) ?_
  show OwnG p e below s _ _ _ (T12.setTop (mkF m 189 #[.val (.int va), .val (.int vb), .val (.int vc), .val (.int vd), .val (.int ve), .val (.int (2 : Int32)), .val (.int (0 : Int32)), .val (.int (2 : Int32)), .val (.int ds), .val (.int te), .val (.int pa), .val (.int pb), .val (.int qa), .val (.int qb), .val (.int qc), .val (.ref lk), .val (.ref sq), .unset, .unset, .unset, .unset, .unset, .unset, .unset] [(.int te), (.int (1 : Int32)), (.ref sq)]))
  by_cases hb189_13 : te = (0 : Int32)
  · refine own_by (fun t kk_ => XS.ifNo X12.here hx rfl (hb hby at_189) rfl ((if0 _ _).trans (teq hb189_13).2) kk_) ?_
    show OwnG p e below s _ _ _ (T12.setTop (mkF m 192 #[.val (.int va), .val (.int vb), .val (.int vc), .val (.int vd), .val (.int ve), .val (.int (2 : Int32)), .val (.int (0 : Int32)), .val (.int (2 : Int32)), .val (.int ds), .val (.int te), .val (.int pa), .val (.int pb), .val (.int qa), .val (.int qb), .val (.int qc), .val (.ref lk), .val (.ref sq), .unset, .unset, .unset, .unset, .unset, .unset, .unset] [(.int (1 : Int32)), (.ref sq)]))
    refine own_by (fun t kk_ => XS.iconst X12.here hx rfl (hb hby at_192) kk_) ?_
    show OwnG p e below s _ _ _ (T12.setTop (mkF m 193 #[.val (.int va), .val (.int vb), .val (.int vc), .val (.int vd), .val (.int ve), .val (.int (2 : Int32)), .val (.int (0 : Int32)), .val (.int (2 : Int32)), .val (.int ds), .val (.int te), .val (.int pa), .val (.int pb), .val (.int qa), .val (.int qb), .val (.int qc), .val (.ref lk), .val (.ref sq), .unset, .unset, .unset, .unset, .unset, .unset, .unset] [(.int (1 : Int32)), (.int (1 : Int32)), (.ref sq)]))
    refine own_by (fun t kk_ => XS.goto X12.here hx rfl (pc0 := 193) (pc' := 197) rfl (hb hby at_193) (by decide) (by decide) kk_) ?_
    show OwnG p e below s _ _ _ (T12.setTop (mkF m 197 #[.val (.int va), .val (.int vb), .val (.int vc), .val (.int vd), .val (.int ve), .val (.int (2 : Int32)), .val (.int (0 : Int32)), .val (.int (2 : Int32)), .val (.int ds), .val (.int te), .val (.int pa), .val (.int pb), .val (.int qa), .val (.int qb), .val (.int qc), .val (.ref lk), .val (.ref sq), .unset, .unset, .unset, .unset, .unset, .unset, .unset] [(.int (1 : Int32)), (.int (1 : Int32)), (.ref sq)]))
    obtain ⟨cq14, kq14, q14a, q14b, q14c⟩ := isOf hZ (rfl : T12.heap = T12.heap) S12.1
    obtain ⟨_, _, ⟨T14, L14, k14, n14⟩, -, X14, ⟨Lc14, hQ14, l14, y14, z14⟩, st14⟩ := X12.virtualBack hx (y := (⟨"com/example/score_on_crawl/scoreoncrawl/engine/BreadthFirstSequence", "added", "(IZ)V"⟩ : MethodName)) (z := (⟨"com/example/score_on_crawl/scoreoncrawl/engine/BreadthFirstSequence", "added", "(IZ)V"⟩ : MethodName)) hown (mvT hZ (hw _ (List.mem_of_getElem? (i := 57) rfl))) (mvT hZ (hw _ (List.mem_of_getElem? (i := 58) rfl))) (notFace_of_selects (args := #[]) (mvT hZ (hw _ (List.mem_of_getElem? (i := 60) rfl)))) (mvT hZ (hw _ (List.mem_of_getElem? (i := 60) rfl))) (mvT hZ (hw _ (List.mem_of_getElem? (i := 59) rfl))) (by decide) (backOf (W := 0) (rm9 l Z a0 hw [] sq fp bs wa (1 : Int32) (0 : Int32) (0 : Int32) (1 : Int32) (1 : Int32) (2 : Int32) (0 : Int64) T12.heap n0 sz12 ⟨S12.1, S12.2.1, S12.2.2.1, S12.2.2.2.1, ⟨S12.2.2.2.2.1, S12.2.2.2.2.2.1, ⟨S12.2.2.2.2.2.2.1, S12.2.2.2.2.2.2.2.1, S12.2.2.2.2.2.2.2.2.1, S12.2.2.2.2.2.2.2.2.2.1, S12.2.2.2.2.2.2.2.2.2.2⟩⟩⟩ Nn (by decide)) hZ (hw _ (List.mem_of_getElem? (i := 61) rfl)) (hw _ (List.mem_of_getElem? (i := 4) rfl)) (by decide) (by decide)) q14a q14c (g := (mkF m 197 #[.val (.int va), .val (.int vb), .val (.int vc), .val (.int vd), .val (.int ve), .val (.int (2 : Int32)), .val (.int (0 : Int32)), .val (.int (2 : Int32)), .val (.int ds), .val (.int te), .val (.int pa), .val (.int pb), .val (.int qa), .val (.int qb), .val (.int qc), .val (.ref lk), .val (.ref sq), .unset, .unset, .unset, .unset, .unset, .unset, .unset] [(.int (1 : Int32)), (.int (1 : Int32)), (.ref sq)])) rfl (by rw [hml]; rfl) (Steps.refl _) (argsL := [(.int (1 : Int32)), (.int (1 : Int32))]) (rest := []) (lenOf pd_5 rfl) rfl (by show 2 * 0 + _ ≤ _; exact Nat.le_of_eq rfl) (hb hby at_197) (fun _ _ => ⟨rfl, (rfl : T12.heap = T12.heap), (by decide : 0 + 1 + 1 + 3 + 0 ≤ _), (by decide : 0 + 3 + 5 + 0 ≤ _)⟩)
    dsimp only [Pt.U, Pt.locs, Pt.cells, Pt.slots] at X14 l14 y14 z14 st14 hQ14
    subst l14 y14 z14
    refine own_by (fun t kk_ => st14.trans kk_) ?_
    obtain ⟨rfl, N14q, S14⟩ := hQ14
    have N14 := Fr.app N12 N14q
    have sz14 : n0 ≤ T14.heap.size := Nat.le_trans Nn.1 (Nat.le_of_lt (Exa.lt S14.1))
    show OwnG p e below s _ _ _ (T14.setTop (mkF m 200 #[.val (.int va), .val (.int vb), .val (.int vc), .val (.int vd), .val (.int ve), .val (.int (2 : Int32)), .val (.int (0 : Int32)), .val (.int (2 : Int32)), .val (.int ds), .val (.int te), .val (.int pa), .val (.int pb), .val (.int qa), .val (.int qb), .val (.int qc), .val (.ref lk), .val (.ref sq), .unset, .unset, .unset, .unset, .unset, .unset, .unset] []))
    refine own_by (fun t kk_ => XS.aload X14.here hx rfl (hb hby at_200) rfl rfl kk_) ?_
    show OwnG p e below s _ _ _ (T14.setTop (mkF m 202 #[.val (.int va), .val (.int vb), .val (.int vc), .val (.int vd), .val (.int ve), .val (.int (2 : Int32)), .val (.int (0 : Int32)), .val (.int (2 : Int32)), .val (.int ds), .val (.int te), .val (.int pa), .val (.int pb), .val (.int qa), .val (.int qb), .val (.int qc), .val (.ref lk), .val (.ref sq), .unset, .unset, .unset, .unset, .unset, .unset, .unset] [(.ref sq)]))
    refine own_by (fun t kk_ => XS.iload X14.here hx rfl (hb hby at_202) rfl  kk_) ?_
    show OwnG p e below s _ _ _ (T14.setTop (mkF m 204 #[.val (.int va), .val (.int vb), .val (.int vc), .val (.int vd), .val (.int ve), .val (.int (2 : Int32)), .val (.int (0 : Int32)), .val (.int (2 : Int32)), .val (.int ds), .val (.int te), .val (.int pa), .val (.int pb), .val (.int qa), .val (.int qb), .val (.int qc), .val (.ref lk), .val (.ref sq), .unset, .unset, .unset, .unset, .unset, .unset, .unset] [(.int pa), (.ref sq)]))
    refine own_by (fun t kk_ => XS.iload X14.here hx rfl (hb hby at_204) rfl  kk_) ?_
    show OwnG p e below s _ _ _ (T14.setTop (mkF m 206 #[.val (.int va), .val (.int vb), .val (.int vc), .val (.int vd), .val (.int ve), .val (.int (2 : Int32)), .val (.int (0 : Int32)), .val (.int (2 : Int32)), .val (.int ds), .val (.int te), .val (.int pa), .val (.int pb), .val (.int qa), .val (.int qb), .val (.int qc), .val (.ref lk), .val (.ref sq), .unset, .unset, .unset, .unset, .unset, .unset, .unset] [(.int pb), (.int pa), (.ref sq)]))
    refine own_by (fun t kk_ => XS.iload X14.here hx rfl (hb hby at_206) rfl  kk_) ?_
    show OwnG p e below s _ _ _ (T14.setTop (mkF m 208 #[.val (.int va), .val (.int vb), .val (.int vc), .val (.int vd), .val (.int ve), .val (.int (2 : Int32)), .val (.int (0 : Int32)), .val (.int (2 : Int32)), .val (.int ds), .val (.int te), .val (.int pa), .val (.int pb), .val (.int qa), .val (.int qb), .val (.int qc), .val (.ref lk), .val (.ref sq), .unset, .unset, .unset, .unset, .unset, .unset, .unset] [(.int ds), (.int pb), (.int pa), (.ref sq)]))
    refine own_by (fun t kk_ => XS.aload X14.here hx rfl (hb hby at_208) rfl rfl kk_) ?_
    show OwnG p e below s _ _ _ (T14.setTop (mkF m 210 #[.val (.int va), .val (.int vb), .val (.int vc), .val (.int vd), .val (.int ve), .val (.int (2 : Int32)), .val (.int (0 : Int32)), .val (.int (2 : Int32)), .val (.int ds), .val (.int te), .val (.int pa), .val (.int pb), .val (.int qa), .val (.int qb), .val (.int qc), .val (.ref lk), .val (.ref sq), .unset, .unset, .unset, .unset, .unset, .unset, .unset] [(.ref lk), (.int ds), (.int pb), (.int pa), (.ref sq)]))
    obtain ⟨_, _, ⟨T15, L15, k15, n15⟩, -, X15, ⟨Lc15, hQ15, l15, y15, z15⟩, st15⟩ := Jvm.LawKit.callS X14 hx (y := (⟨"com/example/score_on_crawl/scoreoncrawl/engine/BreadthFirstSequenceHasNextPinLaw", "fetchTwo", "(Lcom/example/score_on_crawl/scoreoncrawl/engine/BreadthFirstSequence;ZZZ[I)V"⟩ : MethodName)) hown (mvT hZ (hw _ (List.mem_of_getElem? (i := 44) rfl))) (mvT hZ (hw _ (List.mem_of_getElem? (i := 45) rfl))) (mvT hZ (hw _ (List.mem_of_getElem? (i := 46) rfl))) (mvT hZ (hw _ (List.mem_of_getElem? (i := 47) rfl))) (by decide) (backOf (W := 0) (rm7 l Z a0 hw [] sq fp bs wa lk (2 : Int32) (0 : Int32) (0 : Int32) pa pb ds (0 : Int64) T14.heap n0 sz14 ⟨S14.1, S14.2.1, S14.2.2.1, S14.2.2.2.1, ⟨S14.2.2.2.2.1, S14.2.2.2.2.2.1, ⟨S14.2.2.2.2.2.2.1, S14.2.2.2.2.2.2.2.1, S14.2.2.2.2.2.2.2.2.1, S14.2.2.2.2.2.2.2.2.2.1, S14.2.2.2.2.2.2.2.2.2.2⟩⟩⟩ Nn (Or.inl rfl) (Or.inl rfl) rfl) hZ (hw _ (List.mem_of_getElem? (i := 47) rfl)) (hw _ (List.mem_of_getElem? (i := 46) rfl)) (by decide) (by decide)) (g := (mkF m 210 #[.val (.int va), .val (.int vb), .val (.int vc), .val (.int vd), .val (.int ve), .val (.int (2 : Int32)), .val (.int (0 : Int32)), .val (.int (2 : Int32)), .val (.int ds), .val (.int te), .val (.int pa), .val (.int pb), .val (.int qa), .val (.int qb), .val (.int qc), .val (.ref lk), .val (.ref sq), .unset, .unset, .unset, .unset, .unset, .unset, .unset] [(.ref lk), (.int ds), (.int pb), (.int pa), (.ref sq)])) rfl (by rw [hml]; rfl) (argsL := [(.ref sq), (.int pa), (.int pb), (.int ds), (.ref lk)]) (rest := []) (lenOf pd_6 rfl) rfl (by show 2 * 0 + _ ≤ _; exact Nat.le_of_eq rfl) (hb hby at_210) (fun _ _ => ⟨rfl, (rfl : T14.heap = T14.heap), (by decide : 0 + 1 + 1 + 3 + 0 ≤ _), (by decide : 0 + 3 + 5 + 0 ≤ _)⟩)
    dsimp only [Pt.U, Pt.locs, Pt.cells, Pt.slots] at X15 l15 y15 z15 st15 hQ15
    subst l15 y15 z15
    refine own_by (fun t kk_ => st15 _ kk_) ?_
    obtain ⟨rfl, N15q, u15, hm15, hu15, S15⟩ := hQ15
    have N15 := Fr.app N14 N15q
    have sz15 : n0 ≤ T15.heap.size := Nat.le_trans Nn.1 (Nat.le_of_lt (Exa.lt S15.1))
    show OwnG p e below s _ _ _ (T15.setTop (mkF m 213 #[.val (.int va), .val (.int vb), .val (.int vc), .val (.int vd), .val (.int ve), .val (.int (2 : Int32)), .val (.int (0 : Int32)), .val (.int (2 : Int32)), .val (.int ds), .val (.int te), .val (.int pa), .val (.int pb), .val (.int qa), .val (.int qb), .val (.int qc), .val (.ref lk), .val (.ref sq), .unset, .unset, .unset, .unset, .unset, .unset, .unset] []))
    refine own_by (fun t kk_ => XS.aload X15.here hx rfl (hb hby at_213) rfl rfl kk_) ?_
    show OwnG p e below s _ _ _ (T15.setTop (mkF m 215 #[.val (.int va), .val (.int vb), .val (.int vc), .val (.int vd), .val (.int ve), .val (.int (2 : Int32)), .val (.int (0 : Int32)), .val (.int (2 : Int32)), .val (.int ds), .val (.int te), .val (.int pa), .val (.int pb), .val (.int qa), .val (.int qb), .val (.int qc), .val (.ref lk), .val (.ref sq), .unset, .unset, .unset, .unset, .unset, .unset, .unset] [(.ref sq)]))
    obtain ⟨cq16, kq16, q16a, q16b, q16c⟩ := isOf hZ (rfl : T15.heap = T15.heap) S15.1
    obtain ⟨_, _, ⟨T16, L16, k16, n16⟩, -, X16, ⟨Lc16, hQ16, l16, y16, z16⟩, st16⟩ := X15.virtualBack hx (y := (⟨"com/example/score_on_crawl/scoreoncrawl/engine/BreadthFirstSequence", "hasNext", "()Z"⟩ : MethodName)) (z := (⟨"com/example/score_on_crawl/scoreoncrawl/engine/BreadthFirstSequence", "hasNext", "()Z"⟩ : MethodName)) hown (mvT hZ (hw _ (List.mem_of_getElem? (i := 48) rfl))) (mvT hZ (hw _ (List.mem_of_getElem? (i := 49) rfl))) (notFace_of_selects (args := #[]) (mvT hZ (hw _ (List.mem_of_getElem? (i := 51) rfl)))) (mvT hZ (hw _ (List.mem_of_getElem? (i := 51) rfl))) (mvT hZ (hw _ (List.mem_of_getElem? (i := 50) rfl))) (by decide) (backOf (W := 0) (rm8 l Z a0 hw [] sq fp bs wa (2 : Int32) (own_c (own_set (0 : Int64) pa pb 0)) u15 (own_set (0 : Int64) pa pb 0) T15.heap n0 sz15 ⟨S15.1, S15.2.1, S15.2.2.1, S15.2.2.2.1, ⟨S15.2.2.2.2.1, S15.2.2.2.2.2.1, ⟨S15.2.2.2.2.2.2.1, S15.2.2.2.2.2.2.2.1, S15.2.2.2.2.2.2.2.2.1, S15.2.2.2.2.2.2.2.2.2.1, S15.2.2.2.2.2.2.2.2.2.2⟩⟩⟩) hZ (hw _ (List.mem_of_getElem? (i := 52) rfl)) (hw _ (List.mem_of_getElem? (i := 4) rfl)) (by decide) (by decide)) q16a q16c (g := (mkF m 215 #[.val (.int va), .val (.int vb), .val (.int vc), .val (.int vd), .val (.int ve), .val (.int (2 : Int32)), .val (.int (0 : Int32)), .val (.int (2 : Int32)), .val (.int ds), .val (.int te), .val (.int pa), .val (.int pb), .val (.int qa), .val (.int qb), .val (.int qc), .val (.ref lk), .val (.ref sq), .unset, .unset, .unset, .unset, .unset, .unset, .unset] [(.ref sq)])) rfl (by rw [hml]; rfl) (Steps.refl _) (argsL := []) (rest := []) (lenOf pd_7 rfl) rfl (by show 2 * 0 + _ ≤ _; exact Nat.le_of_eq rfl) (hb hby at_215) (fun _ _ => ⟨rfl, (rfl : T15.heap = T15.heap), (by decide : 0 + 1 + 1 + 3 + 0 ≤ _), (by decide : 0 + 3 + 5 + 0 ≤ _)⟩)
    dsimp only [Pt.U, Pt.locs, Pt.cells, Pt.slots] at X16 l16 y16 z16 st16 hQ16
    subst l16 y16 z16
    refine own_by (fun t kk_ => st16.trans kk_) ?_
    obtain ⟨rfl, N16q, hh16⟩ := hQ16
    have N16 := Fr.app N15 N16q
    have f17 := S15.1
    rw [← hh16] at f17
    have f18 := S15.2.1
    rw [← hh16] at f18
    have f19 := S15.2.2.1
    rw [← hh16] at f19
    have f20 := S15.2.2.2.1
    rw [← hh16] at f20
    have f21 := S15.2.2.2.2.1
    rw [← hh16] at f21
    have f22 := S15.2.2.2.2.2.1
    rw [← hh16] at f22
    have f23 := S15.2.2.2.2.2.2.1
    rw [← hh16] at f23
    have f24 := S15.2.2.2.2.2.2.2.1
    rw [← hh16] at f24
    have f25 := S15.2.2.2.2.2.2.2.2.1
    rw [← hh16] at f25
    have f26 := S15.2.2.2.2.2.2.2.2.2.1
    rw [← hh16] at f26
    have f27 := S15.2.2.2.2.2.2.2.2.2.2
    rw [← hh16] at f27
    have sz16 : n0 ≤ T16.heap.size := by rw [hh16]; exact sz15
    show OwnG p e below s _ _ _ (T16.setTop (mkF m 218 #[.val (.int va), .val (.int vb), .val (.int vc), .val (.int vd), .val (.int ve), .val (.int (2 : Int32)), .val (.int (0 : Int32)), .val (.int (2 : Int32)), .val (.int ds), .val (.int te), .val (.int pa), .val (.int pb), .val (.int qa), .val (.int qb), .val (.int qc), .val (.ref lk), .val (.ref sq), .unset, .unset, .unset, .unset, .unset, .unset, .unset] [(.int (own_lt (own_c (own_set (0 : Int64) pa pb 0)) (2 : Int32)))]))
    refine own_by (fun t kk_ => XS.istore X16.here hx rfl (hb hby at_218) rfl (l' := #[.val (.int va), .val (.int vb), .val (.int vc), .val (.int vd), .val (.int ve), .val (.int (2 : Int32)), .val (.int (0 : Int32)), .val (.int (2 : Int32)), .val (.int ds), .val (.int te), .val (.int pa), .val (.int pb), .val (.int qa), .val (.int qb), .val (.int qc), .val (.ref lk), .val (.ref sq), .val (.int (own_lt (own_c (own_set (0 : Int64) pa pb 0)) (2 : Int32))), .unset, .unset, .unset, .unset, .unset, .unset]) rfl kk_) ?_
    show OwnG p e below s _ _ _ (T16.setTop (mkF m 220 #[.val (.int va), .val (.int vb), .val (.int vc), .val (.int vd), .val (.int ve), .val (.int (2 : Int32)), .val (.int (0 : Int32)), .val (.int (2 : Int32)), .val (.int ds), .val (.int te), .val (.int pa), .val (.int pb), .val (.int qa), .val (.int qb), .val (.int qc), .val (.ref lk), .val (.ref sq), .val (.int (own_lt (own_c (own_set (0 : Int64) pa pb 0)) (2 : Int32))), .unset, .unset, .unset, .unset, .unset, .unset] []))
    refine own_by (fun t kk_ => XS.iload X16.here hx rfl (hb hby at_220) rfl  kk_) ?_
    show OwnG p e below s _ _ _ (T16.setTop (mkF m 222 #[.val (.int va), .val (.int vb), .val (.int vc), .val (.int vd), .val (.int ve), .val (.int (2 : Int32)), .val (.int (0 : Int32)), .val (.int (2 : Int32)), .val (.int ds), .val (.int te), .val (.int pa), .val (.int pb), .val (.int qa), .val (.int qb), .val (.int qc), .val (.ref lk), .val (.ref sq), .val (.int (own_lt (own_c (own_set (0 : Int64) pa pb 0)) (2 : Int32))), .unset, .unset, .unset, .unset, .unset, .unset] [(.int (0 : Int32))]))
    refine own_by (fun t kk_ => XS.ifYes X16.here hx rfl (pc0 := 222) (pc' := 234) rfl (hb hby at_222) rfl ((if0 _ _).trans (flt (by decide)).2.2.2) (by decide) (by decide) kk_) ?_
    show OwnG p e below s _ _ _ (T16.setTop (mkF m 234 #[.val (.int va), .val (.int vb), .val (.int vc), .val (.int vd), .val (.int ve), .val (.int (2 : Int32)), .val (.int (0 : Int32)), .val (.int (2 : Int32)), .val (.int ds), .val (.int te), .val (.int pa), .val (.int pb), .val (.int qa), .val (.int qb), .val (.int qc), .val (.ref lk), .val (.ref sq), .val (.int (own_lt (own_c (own_set (0 : Int64) pa pb 0)) (2 : Int32))), .unset, .unset, .unset, .unset, .unset, .unset] []))
    refine own_by (fun t kk_ => XS.aload X16.here hx rfl (hb hby at_234) rfl rfl kk_) ?_
    show OwnG p e below s _ _ _ (T16.setTop (mkF m 236 #[.val (.int va), .val (.int vb), .val (.int vc), .val (.int vd), .val (.int ve), .val (.int (2 : Int32)), .val (.int (0 : Int32)), .val (.int (2 : Int32)), .val (.int ds), .val (.int te), .val (.int pa), .val (.int pb), .val (.int qa), .val (.int qb), .val (.int qc), .val (.ref lk), .val (.ref sq), .val (.int (own_lt (own_c (own_set (0 : Int64) pa pb 0)) (2 : Int32))), .unset, .unset, .unset, .unset, .unset, .unset] [(.ref sq)]))
    refine own_by (fun t kk_ => XS.iload X16.here hx rfl (hb hby at_236) rfl  kk_) ?_
    show OwnG p e below s _ _ _ (T16.setTop (mkF m 238 #[.val (.int va), .val (.int vb), .val (.int vc), .val (.int vd), .val (.int ve), .val (.int (2 : Int32)), .val (.int (0 : Int32)), .val (.int (2 : Int32)), .val (.int ds), .val (.int te), .val (.int pa), .val (.int pb), .val (.int qa), .val (.int qb), .val (.int qc), .val (.ref lk), .val (.ref sq), .val (.int (own_lt (own_c (own_set (0 : Int64) pa pb 0)) (2 : Int32))), .unset, .unset, .unset, .unset, .unset, .unset] [(.int qa), (.ref sq)]))
    refine own_by (fun t kk_ => XS.iload X16.here hx rfl (hb hby at_238) rfl  kk_) ?_
    show OwnG p e below s _ _ _ (T16.setTop (mkF m 240 #[.val (.int va), .val (.int vb), .val (.int vc), .val (.int vd), .val (.int ve), .val (.int (2 : Int32)), .val (.int (0 : Int32)), .val (.int (2 : Int32)), .val (.int ds), .val (.int te), .val (.int pa), .val (.int pb), .val (.int qa), .val (.int qb), .val (.int qc), .val (.ref lk), .val (.ref sq), .val (.int (own_lt (own_c (own_set (0 : Int64) pa pb 0)) (2 : Int32))), .unset, .unset, .unset, .unset, .unset, .unset] [(.int qb), (.int qa), (.ref sq)]))
    refine own_by (fun t kk_ => XS.iload X16.here hx rfl (hb hby at_240) rfl  kk_) ?_
    show OwnG p e below s _ _ _ (T16.setTop (mkF m 242 #[.val (.int va), .val (.int vb), .val (.int vc), .val (.int vd), .val (.int ve), .val (.int (2 : Int32)), .val (.int (0 : Int32)), .val (.int (2 : Int32)), .val (.int ds), .val (.int te), .val (.int pa), .val (.int pb), .val (.int qa), .val (.int qb), .val (.int qc), .val (.ref lk), .val (.ref sq), .val (.int (own_lt (own_c (own_set (0 : Int64) pa pb 0)) (2 : Int32))), .unset, .unset, .unset, .unset, .unset, .unset] [(.int qc), (.int qb), (.int qa), (.ref sq)]))
    refine own_by (fun t kk_ => XS.iload X16.here hx rfl (hb hby at_242) rfl  kk_) ?_
    show OwnG p e below s _ _ _ (T16.setTop (mkF m 244 #[.val (.int va), .val (.int vb), .val (.int vc), .val (.int vd), .val (.int ve), .val (.int (2 : Int32)), .val (.int (0 : Int32)), .val (.int (2 : Int32)), .val (.int ds), .val (.int te), .val (.int pa), .val (.int pb), .val (.int qa), .val (.int qb), .val (.int qc), .val (.ref lk), .val (.ref sq), .val (.int (own_lt (own_c (own_set (0 : Int64) pa pb 0)) (2 : Int32))), .unset, .unset, .unset, .unset, .unset, .unset] [(.int ds), (.int qc), (.int qb), (.int qa), (.ref sq)]))
    refine own_by (fun t kk_ => XS.aload X16.here hx rfl (hb hby at_244) rfl rfl kk_) ?_
    show OwnG p e below s _ _ _ (T16.setTop (mkF m 246 #[.val (.int va), .val (.int vb), .val (.int vc), .val (.int vd), .val (.int ve), .val (.int (2 : Int32)), .val (.int (0 : Int32)), .val (.int (2 : Int32)), .val (.int ds), .val (.int te), .val (.int pa), .val (.int pb), .val (.int qa), .val (.int qb), .val (.int qc), .val (.ref lk), .val (.ref sq), .val (.int (own_lt (own_c (own_set (0 : Int64) pa pb 0)) (2 : Int32))), .unset, .unset, .unset, .unset, .unset, .unset] [(.ref lk), (.int ds), (.int qc), (.int qb), (.int qa), (.ref sq)]))
    obtain ⟨_, _, ⟨T28, L28, k28, n28⟩, -, X28, ⟨Lc28, hQ28, l28, y28, z28⟩, st28⟩ := Jvm.LawKit.callS X16 hx (y := (⟨"com/example/score_on_crawl/scoreoncrawl/engine/BreadthFirstSequenceHasNextPinLaw", "fetchThree", "(Lcom/example/score_on_crawl/scoreoncrawl/engine/BreadthFirstSequence;ZZZZ[I)V"⟩ : MethodName)) hown (mvT hZ (hw _ (List.mem_of_getElem? (i := 62) rfl))) (mvT hZ (hw _ (List.mem_of_getElem? (i := 63) rfl))) (mvT hZ (hw _ (List.mem_of_getElem? (i := 46) rfl))) (mvT hZ (hw _ (List.mem_of_getElem? (i := 64) rfl))) (by decide) (backOf (W := 0) (rm10 l Z a0 hw [] sq fp bs wa lk (2 : Int32) (own_c (own_set (0 : Int64) pa pb 0)) u15 qa qb qc ds (own_set (0 : Int64) pa pb 0) T16.heap n0 sz16 ⟨f17, f18, f19, f20, ⟨f21, f22, ⟨f23, f24, f25, f26, f27⟩⟩⟩ Nn hu15 hm15 rfl) hZ (hw _ (List.mem_of_getElem? (i := 64) rfl)) (hw _ (List.mem_of_getElem? (i := 46) rfl)) (by decide) (by decide)) (g := (mkF m 246 #[.val (.int va), .val (.int vb), .val (.int vc), .val (.int vd), .val (.int ve), .val (.int (2 : Int32)), .val (.int (0 : Int32)), .val (.int (2 : Int32)), .val (.int ds), .val (.int te), .val (.int pa), .val (.int pb), .val (.int qa), .val (.int qb), .val (.int qc), .val (.ref lk), .val (.ref sq), .val (.int (own_lt (own_c (own_set (0 : Int64) pa pb 0)) (2 : Int32))), .unset, .unset, .unset, .unset, .unset, .unset] [(.ref lk), (.int ds), (.int qc), (.int qb), (.int qa), (.ref sq)])) rfl (by rw [hml]; rfl) (argsL := [(.ref sq), (.int qa), (.int qb), (.int qc), (.int ds), (.ref lk)]) (rest := []) (lenOf pd_8 rfl) rfl (by show 2 * 0 + _ ≤ _; exact Nat.le_of_eq rfl) (hb hby at_246) (fun _ _ => ⟨rfl, (rfl : T16.heap = T16.heap), (by decide : 0 + 1 + 1 + 3 + 0 ≤ _), (by decide : 0 + 3 + 5 + 0 ≤ _)⟩)
    dsimp only [Pt.U, Pt.locs, Pt.cells, Pt.slots] at X28 l28 y28 z28 st28 hQ28
    subst l28 y28 z28
    refine own_by (fun t kk_ => st28 _ kk_) ?_
    obtain ⟨rfl, N28q, u28, hm28, hu28, S28⟩ := hQ28
    have N28 := Fr.app N16 N28q
    have sz28 : n0 ≤ T28.heap.size := Nat.le_trans Nn.1 (Nat.le_of_lt (Exa.lt S28.1))
    show OwnG p e below s _ _ _ (T28.setTop (mkF m 249 #[.val (.int va), .val (.int vb), .val (.int vc), .val (.int vd), .val (.int ve), .val (.int (2 : Int32)), .val (.int (0 : Int32)), .val (.int (2 : Int32)), .val (.int ds), .val (.int te), .val (.int pa), .val (.int pb), .val (.int qa), .val (.int qb), .val (.int qc), .val (.ref lk), .val (.ref sq), .val (.int (own_lt (own_c (own_set (0 : Int64) pa pb 0)) (2 : Int32))), .unset, .unset, .unset, .unset, .unset, .unset] []))
    refine own_by (fun t kk_ => XS.aload X28.here hx rfl (hb hby at_249) rfl rfl kk_) ?_
    show OwnG p e below s _ _ _ (T28.setTop (mkF m 251 #[.val (.int va), .val (.int vb), .val (.int vc), .val (.int vd), .val (.int ve), .val (.int (2 : Int32)), .val (.int (0 : Int32)), .val (.int (2 : Int32)), .val (.int ds), .val (.int te), .val (.int pa), .val (.int pb), .val (.int qa), .val (.int qb), .val (.int qc), .val (.ref lk), .val (.ref sq), .val (.int (own_lt (own_c (own_set (0 : Int64) pa pb 0)) (2 : Int32))), .unset, .unset, .unset, .unset, .unset, .unset] [(.ref sq)]))
    obtain ⟨cq29, kq29, q29a, q29b, q29c⟩ := isOf hZ (rfl : T28.heap = T28.heap) S28.1
    obtain ⟨_, _, ⟨T29, L29, k29, n29⟩, -, X29, ⟨Lc29, hQ29, l29, y29, z29⟩, st29⟩ := X28.virtualBack hx (y := (⟨"com/example/score_on_crawl/scoreoncrawl/engine/BreadthFirstSequence", "hasNext", "()Z"⟩ : MethodName)) (z := (⟨"com/example/score_on_crawl/scoreoncrawl/engine/BreadthFirstSequence", "hasNext", "()Z"⟩ : MethodName)) hown (mvT hZ (hw _ (List.mem_of_getElem? (i := 48) rfl))) (mvT hZ (hw _ (List.mem_of_getElem? (i := 49) rfl))) (notFace_of_selects (args := #[]) (mvT hZ (hw _ (List.mem_of_getElem? (i := 51) rfl)))) (mvT hZ (hw _ (List.mem_of_getElem? (i := 51) rfl))) (mvT hZ (hw _ (List.mem_of_getElem? (i := 50) rfl))) (by decide) (backOf (W := 0) (rm8 l Z a0 hw [] sq fp bs wa (2 : Int32) (own_c (own_set (own_set (0 : Int64) pa pb 0) qa qb qc)) u28 (own_set (own_set (0 : Int64) pa pb 0) qa qb qc) T28.heap n0 sz28 ⟨S28.1, S28.2.1, S28.2.2.1, S28.2.2.2.1, ⟨S28.2.2.2.2.1, S28.2.2.2.2.2.1, ⟨S28.2.2.2.2.2.2.1, S28.2.2.2.2.2.2.2.1, S28.2.2.2.2.2.2.2.2.1, S28.2.2.2.2.2.2.2.2.2.1, S28.2.2.2.2.2.2.2.2.2.2⟩⟩⟩) hZ (hw _ (List.mem_of_getElem? (i := 52) rfl)) (hw _ (List.mem_of_getElem? (i := 4) rfl)) (by decide) (by decide)) q29a q29c (g := (mkF m 251 #[.val (.int va), .val (.int vb), .val (.int vc), .val (.int vd), .val (.int ve), .val (.int (2 : Int32)), .val (.int (0 : Int32)), .val (.int (2 : Int32)), .val (.int ds), .val (.int te), .val (.int pa), .val (.int pb), .val (.int qa), .val (.int qb), .val (.int qc), .val (.ref lk), .val (.ref sq), .val (.int (own_lt (own_c (own_set (0 : Int64) pa pb 0)) (2 : Int32))), .unset, .unset, .unset, .unset, .unset, .unset] [(.ref sq)])) rfl (by rw [hml]; rfl) (Steps.refl _) (argsL := []) (rest := []) (lenOf pd_7 rfl) rfl (by show 2 * 0 + _ ≤ _; exact Nat.le_of_eq rfl) (hb hby at_251) (fun _ _ => ⟨rfl, (rfl : T28.heap = T28.heap), (by decide : 0 + 1 + 1 + 3 + 0 ≤ _), (by decide : 0 + 3 + 5 + 0 ≤ _)⟩)
    dsimp only [Pt.U, Pt.locs, Pt.cells, Pt.slots] at X29 l29 y29 z29 st29 hQ29
    subst l29 y29 z29
    refine own_by (fun t kk_ => st29.trans kk_) ?_
    obtain ⟨rfl, N29q, hh29⟩ := hQ29
    have N29 := Fr.app N28 N29q
    have f30 := S28.1
    rw [← hh29] at f30
    have f31 := S28.2.1
    rw [← hh29] at f31
    have f32 := S28.2.2.1
    rw [← hh29] at f32
    have f33 := S28.2.2.2.1
    rw [← hh29] at f33
    have f34 := S28.2.2.2.2.1
    rw [← hh29] at f34
    have f35 := S28.2.2.2.2.2.1
    rw [← hh29] at f35
    have f36 := S28.2.2.2.2.2.2.1
    rw [← hh29] at f36
    have f37 := S28.2.2.2.2.2.2.2.1
    rw [← hh29] at f37
    have f38 := S28.2.2.2.2.2.2.2.2.1
    rw [← hh29] at f38
    have f39 := S28.2.2.2.2.2.2.2.2.2.1
    rw [← hh29] at f39
    have f40 := S28.2.2.2.2.2.2.2.2.2.2
    rw [← hh29] at f40
    have sz29 : n0 ≤ T29.heap.size := by rw [hh29]; exact sz28
    show OwnG p e below s _ _ _ (T29.setTop (mkF m 254 #[.val (.int va), .val (.int vb), .val (.int vc), .val (.int vd), .val (.int ve), .val (.int (2 : Int32)), .val (.int (0 : Int32)), .val (.int (2 : Int32)), .val (.int ds), .val (.int te), .val (.int pa), .val (.int pb), .val (.int qa), .val (.int qb), .val (.int qc), .val (.ref lk), .val (.ref sq), .val (.int (own_lt (own_c (own_set (0 : Int64) pa pb 0)) (2 : Int32))), .unset, .unset, .unset, .unset, .unset, .unset] [(.int (own_lt (own_c (own_set (own_set (0 : Int64) pa pb 0) qa qb qc)) (2 : Int32)))]))
    refine own_by (fun t kk_ => XS.istore X29.here hx rfl (hb hby at_254) rfl (l' := #[.val (.int va), .val (.int vb), .val (.int vc), .val (.int vd), .val (.int ve), .val (.int (2 : Int32)), .val (.int (0 : Int32)), .val (.int (2 : Int32)), .val (.int ds), .val (.int te), .val (.int pa), .val (.int pb), .val (.int qa), .val (.int qb), .val (.int qc), .val (.ref lk), .val (.ref sq), .val (.int (own_lt (own_c (own_set (0 : Int64) pa pb 0)) (2 : Int32))), .val (.int (own_lt (own_c (own_set (own_set (0 : Int64) pa pb 0) qa qb qc)) (2 : Int32))), .unset, .unset, .unset, .unset, .unset]) rfl kk_) ?_
    show OwnG p e below s _ _ _ (T29.setTop (mkF m 256 #[.val (.int va), .val (.int vb), .val (.int vc), .val (.int vd), .val (.int ve), .val (.int (2 : Int32)), .val (.int (0 : Int32)), .val (.int (2 : Int32)), .val (.int ds), .val (.int te), .val (.int pa), .val (.int pb), .val (.int qa), .val (.int qb), .val (.int qc), .val (.ref lk), .val (.ref sq), .val (.int (own_lt (own_c (own_set (0 : Int64) pa pb 0)) (2 : Int32))), .val (.int (own_lt (own_c (own_set (own_set (0 : Int64) pa pb 0) qa qb qc)) (2 : Int32))), .unset, .unset, .unset, .unset, .unset] []))
    exact own_t256 va vb vc vd ve (2 : Int32) (0 : Int32) (2 : Int32) ds te pa pb qa qb qc _ _ lk sq X29 hx hby hml hret hlk hown hnm hZ hw (rfl : T29.heap = T29.heap) N29 sz29 (own_h1 (Or.inr (Or.inr (rfl))) za zb) (own_h2 (Or.inr (Or.inr (Or.inl rfl))) za zb zc zd ze)
  · refine own_by (fun t kk_ => XS.ifYes X12.here hx rfl (pc0 := 189) (pc' := 196) rfl (hb hby at_189) rfl ((if0 _ _).trans (feq hb189_13).2) (by decide) (by decide) kk_) ?_
    show OwnG p e below s _ _ _ (T12.setTop (mkF m 196 #[.val (.int va), .val (.int vb), .val (.int vc), .val (.int vd), .val (.int ve), .val (.int (2 : Int32)), .val (.int (0 : Int32)), .val (.int (2 : Int32)), .val (.int ds), .val (.int te), .val (.int pa), .val (.int pb), .val (.int qa), .val (.int qb), .val (.int qc), .val (.ref lk), .val (.ref sq), .unset, .unset, .unset, .unset, .unset, .unset, .unset] [(.int (1 : Int32)), (.ref sq)]))
    refine own_by (fun t kk_ => XS.iconst X12.here hx rfl (hb hby at_196) kk_) ?_
    show OwnG p e below s _ _ _ (T12.setTop (mkF m 197 #[.val (.int va), .val (.int vb), .val (.int vc), .val (.int vd), .val (.int ve), .val (.int (2 : Int32)), .val (.int (0 : Int32)), .val (.int (2 : Int32)), .val (.int ds), .val (.int te), .val (.int pa), .val (.int pb), .val (.int qa), .val (.int qb), .val (.int qc), .val (.ref lk), .val (.ref sq), .unset, .unset, .unset, .unset, .unset, .unset, .unset] [(.int (0 : Int32)), (.int (1 : Int32)), (.ref sq)]))
    obtain ⟨cq41, kq41, q41a, q41b, q41c⟩ := isOf hZ (rfl : T12.heap = T12.heap) S12.1
    obtain ⟨_, _, ⟨T41, L41, k41, n41⟩, -, X41, ⟨Lc41, hQ41, l41, y41, z41⟩, st41⟩ := X12.virtualBack hx (y := (⟨"com/example/score_on_crawl/scoreoncrawl/engine/BreadthFirstSequence", "added", "(IZ)V"⟩ : MethodName)) (z := (⟨"com/example/score_on_crawl/scoreoncrawl/engine/BreadthFirstSequence", "added", "(IZ)V"⟩ : MethodName)) hown (mvT hZ (hw _ (List.mem_of_getElem? (i := 57) rfl))) (mvT hZ (hw _ (List.mem_of_getElem? (i := 58) rfl))) (notFace_of_selects (args := #[]) (mvT hZ (hw _ (List.mem_of_getElem? (i := 60) rfl)))) (mvT hZ (hw _ (List.mem_of_getElem? (i := 60) rfl))) (mvT hZ (hw _ (List.mem_of_getElem? (i := 59) rfl))) (by decide) (backOf (W := 0) (rm9 l Z a0 hw [] sq fp bs wa (1 : Int32) (0 : Int32) (0 : Int32) (1 : Int32) (0 : Int32) (2 : Int32) (0 : Int64) T12.heap n0 sz12 ⟨S12.1, S12.2.1, S12.2.2.1, S12.2.2.2.1, ⟨S12.2.2.2.2.1, S12.2.2.2.2.2.1, ⟨S12.2.2.2.2.2.2.1, S12.2.2.2.2.2.2.2.1, S12.2.2.2.2.2.2.2.2.1, S12.2.2.2.2.2.2.2.2.2.1, S12.2.2.2.2.2.2.2.2.2.2⟩⟩⟩ Nn (by decide)) hZ (hw _ (List.mem_of_getElem? (i := 61) rfl)) (hw _ (List.mem_of_getElem? (i := 4) rfl)) (by decide) (by decide)) q41a q41c (g := (mkF m 197 #[.val (.int va), .val (.int vb), .val (.int vc), .val (.int vd), .val (.int ve), .val (.int (2 : Int32)), .val (.int (0 : Int32)), .val (.int (2 : Int32)), .val (.int ds), .val (.int te), .val (.int pa), .val (.int pb), .val (.int qa), .val (.int qb), .val (.int qc), .val (.ref lk), .val (.ref sq), .unset, .unset, .unset, .unset, .unset, .unset, .unset] [(.int (0 : Int32)), (.int (1 : Int32)), (.ref sq)])) rfl (by rw [hml]; rfl) (Steps.refl _) (argsL := [(.int (1 : Int32)), (.int (0 : Int32))]) (rest := []) (lenOf pd_5 rfl) rfl (by show 2 * 0 + _ ≤ _; exact Nat.le_of_eq rfl) (hb hby at_197) (fun _ _ => ⟨rfl, (rfl : T12.heap = T12.heap), (by decide : 0 + 1 + 1 + 3 + 0 ≤ _), (by decide : 0 + 3 + 5 + 0 ≤ _)⟩)
    dsimp only [Pt.U, Pt.locs, Pt.cells, Pt.slots] at X41 l41 y41 z41 st41 hQ41
    subst l41 y41 z41
    refine own_by (fun t kk_ => st41.trans kk_) ?_
    obtain ⟨rfl, N41q, S41⟩ := hQ41
    have N41 := Fr.app N12 N41q
    have sz41 : n0 ≤ T41.heap.size := Nat.le_trans Nn.1 (Nat.le_of_lt (Exa.lt S41.1))
    show OwnG p e below s _ _ _ (T41.setTop (mkF m 200 #[.val (.int va), .val (.int vb), .val (.int vc), .val (.int vd), .val (.int ve), .val (.int (2 : Int32)), .val (.int (0 : Int32)), .val (.int (2 : Int32)), .val (.int ds), .val (.int te), .val (.int pa), .val (.int pb), .val (.int qa), .val (.int qb), .val (.int qc), .val (.ref lk), .val (.ref sq), .unset, .unset, .unset, .unset, .unset, .unset, .unset] []))
    refine own_by (fun t kk_ => XS.aload X41.here hx rfl (hb hby at_200) rfl rfl kk_) ?_
    show OwnG p e below s _ _ _ (T41.setTop (mkF m 202 #[.val (.int va), .val (.int vb), .val (.int vc), .val (.int vd), .val (.int ve), .val (.int (2 : Int32)), .val (.int (0 : Int32)), .val (.int (2 : Int32)), .val (.int ds), .val (.int te), .val (.int pa), .val (.int pb), .val (.int qa), .val (.int qb), .val (.int qc), .val (.ref lk), .val (.ref sq), .unset, .unset, .unset, .unset, .unset, .unset, .unset] [(.ref sq)]))
    refine own_by (fun t kk_ => XS.iload X41.here hx rfl (hb hby at_202) rfl  kk_) ?_
    show OwnG p e below s _ _ _ (T41.setTop (mkF m 204 #[.val (.int va), .val (.int vb), .val (.int vc), .val (.int vd), .val (.int ve), .val (.int (2 : Int32)), .val (.int (0 : Int32)), .val (.int (2 : Int32)), .val (.int ds), .val (.int te), .val (.int pa), .val (.int pb), .val (.int qa), .val (.int qb), .val (.int qc), .val (.ref lk), .val (.ref sq), .unset, .unset, .unset, .unset, .unset, .unset, .unset] [(.int pa), (.ref sq)]))
    refine own_by (fun t kk_ => XS.iload X41.here hx rfl (hb hby at_204) rfl  kk_) ?_
    show OwnG p e below s _ _ _ (T41.setTop (mkF m 206 #[.val (.int va), .val (.int vb), .val (.int vc), .val (.int vd), .val (.int ve), .val (.int (2 : Int32)), .val (.int (0 : Int32)), .val (.int (2 : Int32)), .val (.int ds), .val (.int te), .val (.int pa), .val (.int pb), .val (.int qa), .val (.int qb), .val (.int qc), .val (.ref lk), .val (.ref sq), .unset, .unset, .unset, .unset, .unset, .unset, .unset] [(.int pb), (.int pa), (.ref sq)]))
    refine own_by (fun t kk_ => XS.iload X41.here hx rfl (hb hby at_206) rfl  kk_) ?_
    show OwnG p e below s _ _ _ (T41.setTop (mkF m 208 #[.val (.int va), .val (.int vb), .val (.int vc), .val (.int vd), .val (.int ve), .val (.int (2 : Int32)), .val (.int (0 : Int32)), .val (.int (2 : Int32)), .val (.int ds), .val (.int te), .val (.int pa), .val (.int pb), .val (.int qa), .val (.int qb), .val (.int qc), .val (.ref lk), .val (.ref sq), .unset, .unset, .unset, .unset, .unset, .unset, .unset] [(.int ds), (.int pb), (.int pa), (.ref sq)]))
    refine own_by (fun t kk_ => XS.aload X41.here hx rfl (hb hby at_208) rfl rfl kk_) ?_
    show OwnG p e below s _ _ _ (T41.setTop (mkF m 210 #[.val (.int va), .val (.int vb), .val (.int vc), .val (.int vd), .val (.int ve), .val (.int (2 : Int32)), .val (.int (0 : Int32)), .val (.int (2 : Int32)), .val (.int ds), .val (.int te), .val (.int pa), .val (.int pb), .val (.int qa), .val (.int qb), .val (.int qc), .val (.ref lk), .val (.ref sq), .unset, .unset, .unset, .unset, .unset, .unset, .unset] [(.ref lk), (.int ds), (.int pb), (.int pa), (.ref sq)]))
    obtain ⟨_, _, ⟨T42, L42, k42, n42⟩, -, X42, ⟨Lc42, hQ42, l42, y42, z42⟩, st42⟩ := Jvm.LawKit.callS X41 hx (y := (⟨"com/example/score_on_crawl/scoreoncrawl/engine/BreadthFirstSequenceHasNextPinLaw", "fetchTwo", "(Lcom/example/score_on_crawl/scoreoncrawl/engine/BreadthFirstSequence;ZZZ[I)V"⟩ : MethodName)) hown (mvT hZ (hw _ (List.mem_of_getElem? (i := 44) rfl))) (mvT hZ (hw _ (List.mem_of_getElem? (i := 45) rfl))) (mvT hZ (hw _ (List.mem_of_getElem? (i := 46) rfl))) (mvT hZ (hw _ (List.mem_of_getElem? (i := 47) rfl))) (by decide) (backOf (W := 0) (rm7 l Z a0 hw [] sq fp bs wa lk (2 : Int32) (0 : Int32) (0 : Int32) pa pb ds (0 : Int64) T41.heap n0 sz41 ⟨S41.1, S41.2.1, S41.2.2.1, S41.2.2.2.1, ⟨S41.2.2.2.2.1, S41.2.2.2.2.2.1, ⟨S41.2.2.2.2.2.2.1, S41.2.2.2.2.2.2.2.1, S41.2.2.2.2.2.2.2.2.1, S41.2.2.2.2.2.2.2.2.2.1, S41.2.2.2.2.2.2.2.2.2.2⟩⟩⟩ Nn (Or.inl rfl) (Or.inl rfl) rfl) hZ (hw _ (List.mem_of_getElem? (i := 47) rfl)) (hw _ (List.mem_of_getElem? (i := 46) rfl)) (by decide) (by decide)) (g := (mkF m 210 #[.val (.int va), .val (.int vb), .val (.int vc), .val (.int vd), .val (.int ve), .val (.int (2 : Int32)), .val (.int (0 : Int32)), .val (.int (2 : Int32)), .val (.int ds), .val (.int te), .val (.int pa), .val (.int pb), .val (.int qa), .val (.int qb), .val (.int qc), .val (.ref lk), .val (.ref sq), .unset, .unset, .unset, .unset, .unset, .unset, .unset] [(.ref lk), (.int ds), (.int pb), (.int pa), (.ref sq)])) rfl (by rw [hml]; rfl) (argsL := [(.ref sq), (.int pa), (.int pb), (.int ds), (.ref lk)]) (rest := []) (lenOf pd_6 rfl) rfl (by show 2 * 0 + _ ≤ _; exact Nat.le_of_eq rfl) (hb hby at_210) (fun _ _ => ⟨rfl, (rfl : T41.heap = T41.heap), (by decide : 0 + 1 + 1 + 3 + 0 ≤ _), (by decide : 0 + 3 + 5 + 0 ≤ _)⟩)
    dsimp only [Pt.U, Pt.locs, Pt.cells, Pt.slots] at X42 l42 y42 z42 st42 hQ42
    subst l42 y42 z42
    refine own_by (fun t kk_ => st42 _ kk_) ?_
    obtain ⟨rfl, N42q, u42, hm42, hu42, S42⟩ := hQ42
    have N42 := Fr.app N41 N42q
    have sz42 : n0 ≤ T42.heap.size := Nat.le_trans Nn.1 (Nat.le_of_lt (Exa.lt S42.1))
    show OwnG p e below s _ _ _ (T42.setTop (mkF m 213 #[.val (.int va), .val (.int vb), .val (.int vc), .val (.int vd), .val (.int ve), .val (.int (2 : Int32)), .val (.int (0 : Int32)), .val (.int (2 : Int32)), .val (.int ds), .val (.int te), .val (.int pa), .val (.int pb), .val (.int qa), .val (.int qb), .val (.int qc), .val (.ref lk), .val (.ref sq), .unset, .unset, .unset, .unset, .unset, .unset, .unset] []))
    refine own_by (fun t kk_ => XS.aload X42.here hx rfl (hb hby at_213) rfl rfl kk_) ?_
    show OwnG p e below s _ _ _ (T42.setTop (mkF m 215 #[.val (.int va), .val (.int vb), .val (.int vc), .val (.int vd), .val (.int ve), .val (.int (2 : Int32)), .val (.int (0 : Int32)), .val (.int (2 : Int32)), .val (.int ds), .val (.int te), .val (.int pa), .val (.int pb), .val (.int qa), .val (.int qb), .val (.int qc), .val (.ref lk), .val (.ref sq), .unset, .unset, .unset, .unset, .unset, .unset, .unset] [(.ref sq)]))
    obtain ⟨cq43, kq43, q43a, q43b, q43c⟩ := isOf hZ (rfl : T42.heap = T42.heap) S42.1
    obtain ⟨_, _, ⟨T43, L43, k43, n43⟩, -, X43, ⟨Lc43, hQ43, l43, y43, z43⟩, st43⟩ := X42.virtualBack hx (y := (⟨"com/example/score_on_crawl/scoreoncrawl/engine/BreadthFirstSequence", "hasNext", "()Z"⟩ : MethodName)) (z := (⟨"com/example/score_on_crawl/scoreoncrawl/engine/BreadthFirstSequence", "hasNext", "()Z"⟩ : MethodName)) hown (mvT hZ (hw _ (List.mem_of_getElem? (i := 48) rfl))) (mvT hZ (hw _ (List.mem_of_getElem? (i := 49) rfl))) (notFace_of_selects (args := #[]) (mvT hZ (hw _ (List.mem_of_getElem? (i := 51) rfl)))) (mvT hZ (hw _ (List.mem_of_getElem? (i := 51) rfl))) (mvT hZ (hw _ (List.mem_of_getElem? (i := 50) rfl))) (by decide) (backOf (W := 0) (rm8 l Z a0 hw [] sq fp bs wa (2 : Int32) (own_c (own_set (0 : Int64) pa pb 0)) u42 (own_set (0 : Int64) pa pb 0) T42.heap n0 sz42 ⟨S42.1, S42.2.1, S42.2.2.1, S42.2.2.2.1, ⟨S42.2.2.2.2.1, S42.2.2.2.2.2.1, ⟨S42.2.2.2.2.2.2.1, S42.2.2.2.2.2.2.2.1, S42.2.2.2.2.2.2.2.2.1, S42.2.2.2.2.2.2.2.2.2.1, S42.2.2.2.2.2.2.2.2.2.2⟩⟩⟩) hZ (hw _ (List.mem_of_getElem? (i := 52) rfl)) (hw _ (List.mem_of_getElem? (i := 4) rfl)) (by decide) (by decide)) q43a q43c (g := (mkF m 215 #[.val (.int va), .val (.int vb), .val (.int vc), .val (.int vd), .val (.int ve), .val (.int (2 : Int32)), .val (.int (0 : Int32)), .val (.int (2 : Int32)), .val (.int ds), .val (.int te), .val (.int pa), .val (.int pb), .val (.int qa), .val (.int qb), .val (.int qc), .val (.ref lk), .val (.ref sq), .unset, .unset, .unset, .unset, .unset, .unset, .unset] [(.ref sq)])) rfl (by rw [hml]; rfl) (Steps.refl _) (argsL := []) (rest := []) (lenOf pd_7 rfl) rfl (by show 2 * 0 + _ ≤ _; exact Nat.le_of_eq rfl) (hb hby at_215) (fun _ _ => ⟨rfl, (rfl : T42.heap = T42.heap), (by decide : 0 + 1 + 1 + 3 + 0 ≤ _), (by decide : 0 + 3 + 5 + 0 ≤ _)⟩)
    dsimp only [Pt.U, Pt.locs, Pt.cells, Pt.slots] at X43 l43 y43 z43 st43 hQ43
    subst l43 y43 z43
    refine own_by (fun t kk_ => st43.trans kk_) ?_
    obtain ⟨rfl, N43q, hh43⟩ := hQ43
    have N43 := Fr.app N42 N43q
    have f44 := S42.1
    rw [← hh43] at f44
    have f45 := S42.2.1
    rw [← hh43] at f45
    have f46 := S42.2.2.1
    rw [← hh43] at f46
    have f47 := S42.2.2.2.1
    rw [← hh43] at f47
    have f48 := S42.2.2.2.2.1
    rw [← hh43] at f48
    have f49 := S42.2.2.2.2.2.1
    rw [← hh43] at f49
    have f50 := S42.2.2.2.2.2.2.1
    rw [← hh43] at f50
    have f51 := S42.2.2.2.2.2.2.2.1
    rw [← hh43] at f51
    have f52 := S42.2.2.2.2.2.2.2.2.1
    rw [← hh43] at f52
    have f53 := S42.2.2.2.2.2.2.2.2.2.1
    rw [← hh43] at f53
    have f54 := S42.2.2.2.2.2.2.2.2.2.2
    rw [← hh43] at f54
    have sz43 : n0 ≤ T43.heap.size := by rw [hh43]; exact sz42
    show OwnG p e below s _ _ _ (T43.setTop (mkF m 218 #[.val (.int va), .val (.int vb), .val (.int vc), .val (.int vd), .val (.int ve), .val (.int (2 : Int32)), .val (.int (0 : Int32)), .val (.int (2 : Int32)), .val (.int ds), .val (.int te), .val (.int pa), .val (.int pb), .val (.int qa), .val (.int qb), .val (.int qc), .val (.ref lk), .val (.ref sq), .unset, .unset, .unset, .unset, .unset, .unset, .unset] [(.int (own_lt (own_c (own_set (0 : Int64) pa pb 0)) (2 : Int32)))]))
    refine own_by (fun t kk_ => XS.istore X43.here hx rfl (hb hby at_218) rfl (l' := #[.val (.int va), .val (.int vb), .val (.int vc), .val (.int vd), .val (.int ve), .val (.int (2 : Int32)), .val (.int (0 : Int32)), .val (.int (2 : Int32)), .val (.int ds), .val (.int te), .val (.int pa), .val (.int pb), .val (.int qa), .val (.int qb), .val (.int qc), .val (.ref lk), .val (.ref sq), .val (.int (own_lt (own_c (own_set (0 : Int64) pa pb 0)) (2 : Int32))), .unset, .unset, .unset, .unset, .unset, .unset]) rfl kk_) ?_
    show OwnG p e below s _ _ _ (T43.setTop (mkF m 220 #[.val (.int va), .val (.int vb), .val (.int vc), .val (.int vd), .val (.int ve), .val (.int (2 : Int32)), .val (.int (0 : Int32)), .val (.int (2 : Int32)), .val (.int ds), .val (.int te), .val (.int pa), .val (.int pb), .val (.int qa), .val (.int qb), .val (.int qc), .val (.ref lk), .val (.ref sq), .val (.int (own_lt (own_c (own_set (0 : Int64) pa pb 0)) (2 : Int32))), .unset, .unset, .unset, .unset, .unset, .unset] []))
    refine own_by (fun t kk_ => XS.iload X43.here hx rfl (hb hby at_220) rfl  kk_) ?_
    show OwnG p e below s _ _ _ (T43.setTop (mkF m 222 #[.val (.int va), .val (.int vb), .val (.int vc), .val (.int vd), .val (.int ve), .val (.int (2 : Int32)), .val (.int (0 : Int32)), .val (.int (2 : Int32)), .val (.int ds), .val (.int te), .val (.int pa), .val (.int pb), .val (.int qa), .val (.int qb), .val (.int qc), .val (.ref lk), .val (.ref sq), .val (.int (own_lt (own_c (own_set (0 : Int64) pa pb 0)) (2 : Int32))), .unset, .unset, .unset, .unset, .unset, .unset] [(.int (0 : Int32))]))
    refine own_by (fun t kk_ => XS.ifYes X43.here hx rfl (pc0 := 222) (pc' := 234) rfl (hb hby at_222) rfl ((if0 _ _).trans (flt (by decide)).2.2.2) (by decide) (by decide) kk_) ?_
    show OwnG p e below s _ _ _ (T43.setTop (mkF m 234 #[.val (.int va), .val (.int vb), .val (.int vc), .val (.int vd), .val (.int ve), .val (.int (2 : Int32)), .val (.int (0 : Int32)), .val (.int (2 : Int32)), .val (.int ds), .val (.int te), .val (.int pa), .val (.int pb), .val (.int qa), .val (.int qb), .val (.int qc), .val (.ref lk), .val (.ref sq), .val (.int (own_lt (own_c (own_set (0 : Int64) pa pb 0)) (2 : Int32))), .unset, .unset, .unset, .unset, .unset, .unset] []))
    refine own_by (fun t kk_ => XS.aload X43.here hx rfl (hb hby at_234) rfl rfl kk_) ?_
    show OwnG p e below s _ _ _ (T43.setTop (mkF m 236 #[.val (.int va), .val (.int vb), .val (.int vc), .val (.int vd), .val (.int ve), .val (.int (2 : Int32)), .val (.int (0 : Int32)), .val (.int (2 : Int32)), .val (.int ds), .val (.int te), .val (.int pa), .val (.int pb), .val (.int qa), .val (.int qb), .val (.int qc), .val (.ref lk), .val (.ref sq), .val (.int (own_lt (own_c (own_set (0 : Int64) pa pb 0)) (2 : Int32))), .unset, .unset, .unset, .unset, .unset, .unset] [(.ref sq)]))
    refine own_by (fun t kk_ => XS.iload X43.here hx rfl (hb hby at_236) rfl  kk_) ?_
    show OwnG p e below s _ _ _ (T43.setTop (mkF m 238 #[.val (.int va), .val (.int vb), .val (.int vc), .val (.int vd), .val (.int ve), .val (.int (2 : Int32)), .val (.int (0 : Int32)), .val (.int (2 : Int32)), .val (.int ds), .val (.int te), .val (.int pa), .val (.int pb), .val (.int qa), .val (.int qb), .val (.int qc), .val (.ref lk), .val (.ref sq), .val (.int (own_lt (own_c (own_set (0 : Int64) pa pb 0)) (2 : Int32))), .unset, .unset, .unset, .unset, .unset, .unset] [(.int qa), (.ref sq)]))
    refine own_by (fun t kk_ => XS.iload X43.here hx rfl (hb hby at_238) rfl  kk_) ?_
    show OwnG p e below s _ _ _ (T43.setTop (mkF m 240 #[.val (.int va), .val (.int vb), .val (.int vc), .val (.int vd), .val (.int ve), .val (.int (2 : Int32)), .val (.int (0 : Int32)), .val (.int (2 : Int32)), .val (.int ds), .val (.int te), .val (.int pa), .val (.int pb), .val (.int qa), .val (.int qb), .val (.int qc), .val (.ref lk), .val (.ref sq), .val (.int (own_lt (own_c (own_set (0 : Int64) pa pb 0)) (2 : Int32))), .unset, .unset, .unset, .unset, .unset, .unset] [(.int qb), (.int qa), (.ref sq)]))
    refine own_by (fun t kk_ => XS.iload X43.here hx rfl (hb hby at_240) rfl  kk_) ?_
    show OwnG p e below s _ _ _ (T43.setTop (mkF m 242 #[.val (.int va), .val (.int vb), .val (.int vc), .val (.int vd), .val (.int ve), .val (.int (2 : Int32)), .val (.int (0 : Int32)), .val (.int (2 : Int32)), .val (.int ds), .val (.int te), .val (.int pa), .val (.int pb), .val (.int qa), .val (.int qb), .val (.int qc), .val (.ref lk), .val (.ref sq), .val (.int (own_lt (own_c (own_set (0 : Int64) pa pb 0)) (2 : Int32))), .unset, .unset, .unset, .unset, .unset, .unset] [(.int qc), (.int qb), (.int qa), (.ref sq)]))
    refine own_by (fun t kk_ => XS.iload X43.here hx rfl (hb hby at_242) rfl  kk_) ?_
    show OwnG p e below s _ _ _ (T43.setTop (mkF m 244 #[.val (.int va), .val (.int vb), .val (.int vc), .val (.int vd), .val (.int ve), .val (.int (2 : Int32)), .val (.int (0 : Int32)), .val (.int (2 : Int32)), .val (.int ds), .val (.int te), .val (.int pa), .val (.int pb), .val (.int qa), .val (.int qb), .val (.int qc), .val (.ref lk), .val (.ref sq), .val (.int (own_lt (own_c (own_set (0 : Int64) pa pb 0)) (2 : Int32))), .unset, .unset, .unset, .unset, .unset, .unset] [(.int ds), (.int qc), (.int qb), (.int qa), (.ref sq)]))
    refine own_by (fun t kk_ => XS.aload X43.here hx rfl (hb hby at_244) rfl rfl kk_) ?_
    show OwnG p e below s _ _ _ (T43.setTop (mkF m 246 #[.val (.int va), .val (.int vb), .val (.int vc), .val (.int vd), .val (.int ve), .val (.int (2 : Int32)), .val (.int (0 : Int32)), .val (.int (2 : Int32)), .val (.int ds), .val (.int te), .val (.int pa), .val (.int pb), .val (.int qa), .val (.int qb), .val (.int qc), .val (.ref lk), .val (.ref sq), .val (.int (own_lt (own_c (own_set (0 : Int64) pa pb 0)) (2 : Int32))), .unset, .unset, .unset, .unset, .unset, .unset] [(.ref lk), (.int ds), (.int qc), (.int qb), (.int qa), (.ref sq)]))
    obtain ⟨_, _, ⟨T55, L55, k55, n55⟩, -, X55, ⟨Lc55, hQ55, l55, y55, z55⟩, st55⟩ := Jvm.LawKit.callS X43 hx (y := (⟨"com/example/score_on_crawl/scoreoncrawl/engine/BreadthFirstSequenceHasNextPinLaw", "fetchThree", "(Lcom/example/score_on_crawl/scoreoncrawl/engine/BreadthFirstSequence;ZZZZ[I)V"⟩ : MethodName)) hown (mvT hZ (hw _ (List.mem_of_getElem? (i := 62) rfl))) (mvT hZ (hw _ (List.mem_of_getElem? (i := 63) rfl))) (mvT hZ (hw _ (List.mem_of_getElem? (i := 46) rfl))) (mvT hZ (hw _ (List.mem_of_getElem? (i := 64) rfl))) (by decide) (backOf (W := 0) (rm10 l Z a0 hw [] sq fp bs wa lk (2 : Int32) (own_c (own_set (0 : Int64) pa pb 0)) u42 qa qb qc ds (own_set (0 : Int64) pa pb 0) T43.heap n0 sz43 ⟨f44, f45, f46, f47, ⟨f48, f49, ⟨f50, f51, f52, f53, f54⟩⟩⟩ Nn hu42 hm42 rfl) hZ (hw _ (List.mem_of_getElem? (i := 64) rfl)) (hw _ (List.mem_of_getElem? (i := 46) rfl)) (by decide) (by decide)) (g := (mkF m 246 #[.val (.int va), .val (.int vb), .val (.int vc), .val (.int vd), .val (.int ve), .val (.int (2 : Int32)), .val (.int (0 : Int32)), .val (.int (2 : Int32)), .val (.int ds), .val (.int te), .val (.int pa), .val (.int pb), .val (.int qa), .val (.int qb), .val (.int qc), .val (.ref lk), .val (.ref sq), .val (.int (own_lt (own_c (own_set (0 : Int64) pa pb 0)) (2 : Int32))), .unset, .unset, .unset, .unset, .unset, .unset] [(.ref lk), (.int ds), (.int qc), (.int qb), (.int qa), (.ref sq)])) rfl (by rw [hml]; rfl) (argsL := [(.ref sq), (.int qa), (.int qb), (.int qc), (.int ds), (.ref lk)]) (rest := []) (lenOf pd_8 rfl) rfl (by show 2 * 0 + _ ≤ _; exact Nat.le_of_eq rfl) (hb hby at_246) (fun _ _ => ⟨rfl, (rfl : T43.heap = T43.heap), (by decide : 0 + 1 + 1 + 3 + 0 ≤ _), (by decide : 0 + 3 + 5 + 0 ≤ _)⟩)
    dsimp only [Pt.U, Pt.locs, Pt.cells, Pt.slots] at X55 l55 y55 z55 st55 hQ55
    subst l55 y55 z55
    refine own_by (fun t kk_ => st55 _ kk_) ?_
    obtain ⟨rfl, N55q, u55, hm55, hu55, S55⟩ := hQ55
    have N55 := Fr.app N43 N55q
    have sz55 : n0 ≤ T55.heap.size := Nat.le_trans Nn.1 (Nat.le_of_lt (Exa.lt S55.1))
    show OwnG p e below s _ _ _ (T55.setTop (mkF m 249 #[.val (.int va), .val (.int vb), .val (.int vc), .val (.int vd), .val (.int ve), .val (.int (2 : Int32)), .val (.int (0 : Int32)), .val (.int (2 : Int32)), .val (.int ds), .val (.int te), .val (.int pa), .val (.int pb), .val (.int qa), .val (.int qb), .val (.int qc), .val (.ref lk), .val (.ref sq), .val (.int (own_lt (own_c (own_set (0 : Int64) pa pb 0)) (2 : Int32))), .unset, .unset, .unset, .unset, .unset, .unset] []))
    refine own_by (fun t kk_ => XS.aload X55.here hx rfl (hb hby at_249) rfl rfl kk_) ?_
    show OwnG p e below s _ _ _ (T55.setTop (mkF m 251 #[.val (.int va), .val (.int vb), .val (.int vc), .val (.int vd), .val (.int ve), .val (.int (2 : Int32)), .val (.int (0 : Int32)), .val (.int (2 : Int32)), .val (.int ds), .val (.int te), .val (.int pa), .val (.int pb), .val (.int qa), .val (.int qb), .val (.int qc), .val (.ref lk), .val (.ref sq), .val (.int (own_lt (own_c (own_set (0 : Int64) pa pb 0)) (2 : Int32))), .unset, .unset, .unset, .unset, .unset, .unset] [(.ref sq)]))
    obtain ⟨cq56, kq56, q56a, q56b, q56c⟩ := isOf hZ (rfl : T55.heap = T55.heap) S55.1
    obtain ⟨_, _, ⟨T56, L56, k56, n56⟩, -, X56, ⟨Lc56, hQ56, l56, y56, z56⟩, st56⟩ := X55.virtualBack hx (y := (⟨"com/example/score_on_crawl/scoreoncrawl/engine/BreadthFirstSequence", "hasNext", "()Z"⟩ : MethodName)) (z := (⟨"com/example/score_on_crawl/scoreoncrawl/engine/BreadthFirstSequence", "hasNext", "()Z"⟩ : MethodName)) hown (mvT hZ (hw _ (List.mem_of_getElem? (i := 48) rfl))) (mvT hZ (hw _ (List.mem_of_getElem? (i := 49) rfl))) (notFace_of_selects (args := #[]) (mvT hZ (hw _ (List.mem_of_getElem? (i := 51) rfl)))) (mvT hZ (hw _ (List.mem_of_getElem? (i := 51) rfl))) (mvT hZ (hw _ (List.mem_of_getElem? (i := 50) rfl))) (by decide) (backOf (W := 0) (rm8 l Z a0 hw [] sq fp bs wa (2 : Int32) (own_c (own_set (own_set (0 : Int64) pa pb 0) qa qb qc)) u55 (own_set (own_set (0 : Int64) pa pb 0) qa qb qc) T55.heap n0 sz55 ⟨S55.1, S55.2.1, S55.2.2.1, S55.2.2.2.1, ⟨S55.2.2.2.2.1, S55.2.2.2.2.2.1, ⟨S55.2.2.2.2.2.2.1, S55.2.2.2.2.2.2.2.1, S55.2.2.2.2.2.2.2.2.1, S55.2.2.2.2.2.2.2.2.2.1, S55.2.2.2.2.2.2.2.2.2.2⟩⟩⟩) hZ (hw _ (List.mem_of_getElem? (i := 52) rfl)) (hw _ (List.mem_of_getElem? (i := 4) rfl)) (by decide) (by decide)) q56a q56c (g := (mkF m 251 #[.val (.int va), .val (.int vb), .val (.int vc), .val (.int vd), .val (.int ve), .val (.int (2 : Int32)), .val (.int (0 : Int32)), .val (.int (2 : Int32)), .val (.int ds), .val (.int te), .val (.int pa), .val (.int pb), .val (.int qa), .val (.int qb), .val (.int qc), .val (.ref lk), .val (.ref sq), .val (.int (own_lt (own_c (own_set (0 : Int64) pa pb 0)) (2 : Int32))), .unset, .unset, .unset, .unset, .unset, .unset] [(.ref sq)])) rfl (by rw [hml]; rfl) (Steps.refl _) (argsL := []) (rest := []) (lenOf pd_7 rfl) rfl (by show 2 * 0 + _ ≤ _; exact Nat.le_of_eq rfl) (hb hby at_251) (fun _ _ => ⟨rfl, (rfl : T55.heap = T55.heap), (by decide : 0 + 1 + 1 + 3 + 0 ≤ _), (by decide : 0 + 3 + 5 + 0 ≤ _)⟩)
    dsimp only [Pt.U, Pt.locs, Pt.cells, Pt.slots] at X56 l56 y56 z56 st56 hQ56
    subst l56 y56 z56
    refine own_by (fun t kk_ => st56.trans kk_) ?_
    obtain ⟨rfl, N56q, hh56⟩ := hQ56
    have N56 := Fr.app N55 N56q
    have f57 := S55.1
    rw [← hh56] at f57
    have f58 := S55.2.1
    rw [← hh56] at f58
    have f59 := S55.2.2.1
    rw [← hh56] at f59
    have f60 := S55.2.2.2.1
    rw [← hh56] at f60
    have f61 := S55.2.2.2.2.1
    rw [← hh56] at f61
    have f62 := S55.2.2.2.2.2.1
    rw [← hh56] at f62
    have f63 := S55.2.2.2.2.2.2.1
    rw [← hh56] at f63
    have f64 := S55.2.2.2.2.2.2.2.1
    rw [← hh56] at f64
    have f65 := S55.2.2.2.2.2.2.2.2.1
    rw [← hh56] at f65
    have f66 := S55.2.2.2.2.2.2.2.2.2.1
    rw [← hh56] at f66
    have f67 := S55.2.2.2.2.2.2.2.2.2.2
    rw [← hh56] at f67
    have sz56 : n0 ≤ T56.heap.size := by rw [hh56]; exact sz55
    show OwnG p e below s _ _ _ (T56.setTop (mkF m 254 #[.val (.int va), .val (.int vb), .val (.int vc), .val (.int vd), .val (.int ve), .val (.int (2 : Int32)), .val (.int (0 : Int32)), .val (.int (2 : Int32)), .val (.int ds), .val (.int te), .val (.int pa), .val (.int pb), .val (.int qa), .val (.int qb), .val (.int qc), .val (.ref lk), .val (.ref sq), .val (.int (own_lt (own_c (own_set (0 : Int64) pa pb 0)) (2 : Int32))), .unset, .unset, .unset, .unset, .unset, .unset] [(.int (own_lt (own_c (own_set (own_set (0 : Int64) pa pb 0) qa qb qc)) (2 : Int32)))]))
    refine own_by (fun t kk_ => XS.istore X56.here hx rfl (hb hby at_254) rfl (l' := #[.val (.int va), .val (.int vb), .val (.int vc), .val (.int vd), .val (.int ve), .val (.int (2 : Int32)), .val (.int (0 : Int32)), .val (.int (2 : Int32)), .val (.int ds), .val (.int te), .val (.int pa), .val (.int pb), .val (.int qa), .val (.int qb), .val (.int qc), .val (.ref lk), .val (.ref sq), .val (.int (own_lt (own_c (own_set (0 : Int64) pa pb 0)) (2 : Int32))), .val (.int (own_lt (own_c (own_set (own_set (0 : Int64) pa pb 0) qa qb qc)) (2 : Int32))), .unset, .unset, .unset, .unset, .unset]) rfl kk_) ?_
    show OwnG p e below s _ _ _ (T56.setTop (mkF m 256 #[.val (.int va), .val (.int vb), .val (.int vc), .val (.int vd), .val (.int ve), .val (.int (2 : Int32)), .val (.int (0 : Int32)), .val (.int (2 : Int32)), .val (.int ds), .val (.int te), .val (.int pa), .val (.int pb), .val (.int qa), .val (.int qb), .val (.int qc), .val (.ref lk), .val (.ref sq), .val (.int (own_lt (own_c (own_set (0 : Int64) pa pb 0)) (2 : Int32))), .val (.int (own_lt (own_c (own_set (own_set (0 : Int64) pa pb 0) qa qb qc)) (2 : Int32))), .unset, .unset, .unset, .unset, .unset] []))
    exact own_t256 va vb vc vd ve (2 : Int32) (0 : Int32) (2 : Int32) ds te pa pb qa qb qc _ _ lk sq X56 hx hby hml hret hlk hown hnm hZ hw (rfl : T56.heap = T56.heap) N56 sz56 (own_h1 (Or.inr (Or.inr (rfl))) za zb) (own_h2 (Or.inr (Or.inr (Or.inl rfl))) za zb zc zd ze)
set_option maxRecDepth 65536 in
set_option maxHeartbeats 40000000 in
theorem own_m21 {p : Program} {l : Launch} {e : Env} {s : State} {m : MethodId} {args : Array Value} {below : List Frame} {meth : Method} {c : Code} {T0 : State} {locs : List Loc} {Z : State} {a0 : Array Value} {h0 : Heap} {n0 : Nat} (va vb vc vd ve ds te pa pb qa qb qc : Int32) (X0 : Stand p l e room_1 s m args below meth c T0 locs (0) (0)) (hx : p.tables.exec = Jvm.exec) (hby : c.code = code) (hml : c.maxLocals = 24) (hret : meth.sig.returnType = some .boolean) (hlk : meth.locks = false) (hown : s.vm.findClass "com/example/score_on_crawl/scoreoncrawl/engine/BreadthFirstSequenceHasNextPinLaw" = some m.cls) (hnm : meth.name = "law") (hZ : Z.Warmed39 s.vm) (hw : ∀ d ∈ tables_1, d.before a0 Z = true) (e0 : T0.heap = h0) (N0 : Fr n0 locs) (Z0 : n0 ≤ h0.size) (SA : Sta Z h0 "java/util/BitSet" "$assertionsDisabled" "Z" (.int (1 : Int32))) (za : own_z pa) (zb : own_z pb) (zc : own_z qa) (zd : own_z qb) (ze : own_z qc) :
    OwnG p e below s (fun v h L => v = some (.int (1 : Int32)) ∧ Fr n0 L) room_1.cells room_1.slots (T0.setTop (mkF m 151 #[.val (.int va), .val (.int vb), .val (.int vc), .val (.int vd), .val (.int ve), .val (.int (2 : Int32)), .val (.int (1 : Int32)), .val (.int (3 : Int32)), .val (.int ds), .val (.int te), .val (.int pa), .val (.int pb), .val (.int qa), .val (.int qb), .val (.int qc), .unset, .unset, .unset, .unset, .unset, .unset, .unset, .unset, .unset] [])) := by
  show OwnG p e below s _ _ _ (T0.setTop (mkF m 151 #[.val (.int va), .val (.int vb), .val (.int vc), .val (.int vd), .val (.int ve), .val (.int (2 : Int32)), .val (.int (1 : Int32)), .val (.int (3 : Int32)), .val (.int ds), .val (.int te), .val (.int pa), .val (.int pb), .val (.int qa), .val (.int qb), .val (.int qc), .unset, .unset, .unset, .unset, .unset, .unset, .unset, .unset, .unset] []))
  refine own_by (fun t kk_ => XS.iconst X0.here hx rfl (hb hby at_151) kk_) ?_
  show OwnG p e below s _ _ _ (T0.setTop (mkF m 152 #[.val (.int va), .val (.int vb), .val (.int vc), .val (.int vd), .val (.int ve), .val (.int (2 : Int32)), .val (.int (1 : Int32)), .val (.int (3 : Int32)), .val (.int ds), .val (.int te), .val (.int pa), .val (.int pb), .val (.int qa), .val (.int qb), .val (.int qc), .unset, .unset, .unset, .unset, .unset, .unset, .unset, .unset, .unset] [(.int (0 : Int32))]))
  obtain ⟨T1, h1, k1, X1, e1, E1, A1, st1⟩ := newP X0 hx hZ (hw _ (List.mem_of_getElem? (i := 1) rfl)) e0 (g := (mkF m 152 #[.val (.int va), .val (.int vb), .val (.int vc), .val (.int vd), .val (.int ve), .val (.int (2 : Int32)), .val (.int (1 : Int32)), .val (.int (3 : Int32)), .val (.int ds), .val (.int te), .val (.int pa), .val (.int pb), .val (.int qa), .val (.int qb), .val (.int qc), .unset, .unset, .unset, .unset, .unset, .unset, .unset, .unset, .unset] [(.int (0 : Int32))])) rfl (hb hby at_152) rfl (by decide) (cap := 0) (by decide) (by decide) (by decide) (by decide)
  obtain ⟨lk, g1⟩ : ∃ z, z = h0.size := ⟨_, rfl⟩
  rw [← g1] at A1 st1
  have gg_lk : n0 ≤ lk := by rw [g1]; exact Z0
  have sz1 : n0 ≤ h1.size := Nat.le_trans Z0 E1.1
  refine own_by (fun t kk_ => st1 _ kk_) ?_
  have f2 := Sta.ext E1 SA
  have f3 : OwnA Z h1 lk .int 0 (fun _ => (defaultValue .int)) := OwnA.new A1 (n := 0) (by decide) rfl
  show OwnG p e below s _ _ _ (T1.setTop (mkF m 154 #[.val (.int va), .val (.int vb), .val (.int vc), .val (.int vd), .val (.int ve), .val (.int (2 : Int32)), .val (.int (1 : Int32)), .val (.int (3 : Int32)), .val (.int ds), .val (.int te), .val (.int pa), .val (.int pb), .val (.int qa), .val (.int qb), .val (.int qc), .unset, .unset, .unset, .unset, .unset, .unset, .unset, .unset, .unset] [(.ref lk)]))
  refine own_by (fun t kk_ => XS.astore X1.here hx rfl (hb hby at_154) rfl rfl (l' := #[.val (.int va), .val (.int vb), .val (.int vc), .val (.int vd), .val (.int ve), .val (.int (2 : Int32)), .val (.int (1 : Int32)), .val (.int (3 : Int32)), .val (.int ds), .val (.int te), .val (.int pa), .val (.int pb), .val (.int qa), .val (.int qb), .val (.int qc), .val (.ref lk), .unset, .unset, .unset, .unset, .unset, .unset, .unset, .unset]) rfl kk_) ?_
  show OwnG p e below s _ _ _ (T1.setTop (mkF m 156 #[.val (.int va), .val (.int vb), .val (.int vc), .val (.int vd), .val (.int ve), .val (.int (2 : Int32)), .val (.int (1 : Int32)), .val (.int (3 : Int32)), .val (.int ds), .val (.int te), .val (.int pa), .val (.int pb), .val (.int qa), .val (.int qb), .val (.int qc), .val (.ref lk), .unset, .unset, .unset, .unset, .unset, .unset, .unset, .unset] []))
  obtain ⟨T4, h4, X4, e4, E4, A4, D4, -, st4⟩ := newO X1 hx hZ hown (hw _ (List.mem_of_getElem? (i := 2) rfl)) (hw _ (List.mem_of_getElem? (i := 3) rfl)) (hw _ (List.mem_of_getElem? (i := 4) rfl)) e1 (g := (mkF m 156 #[.val (.int va), .val (.int vb), .val (.int vc), .val (.int vd), .val (.int ve), .val (.int (2 : Int32)), .val (.int (1 : Int32)), .val (.int (3 : Int32)), .val (.int ds), .val (.int te), .val (.int pa), .val (.int pb), .val (.int qa), .val (.int qb), .val (.int qc), .val (.ref lk), .unset, .unset, .unset, .unset, .unset, .unset, .unset, .unset] [])) rfl (hb hby at_156) (by decide) (by decide)
  obtain ⟨sq, g4⟩ : ∃ z, z = h1.size := ⟨_, rfl⟩
  rw [← g4] at A4 D4 st4
  have ne5 : lk ≠ sq := fun q => absurd f3.lt (by rw [q, g4]; exact Nat.lt_irrefl _)
  have gg_sq : n0 ≤ sq := by rw [g4]; exact sz1
  have sz4 : n0 ≤ h4.size := Nat.le_trans sz1 E4.1
  refine own_by (fun t kk_ => st4 _ kk_) ?_
  have f6 := Sta.ext E4 f2
  have f7 := OwnA.ext E4 f3
  have f8 : Fld Z h4 sq "com/example/score_on_crawl/scoreoncrawl/engine/BreadthFirstSequence" "fetched" "Lcom/example/score_on_crawl/scoreoncrawl/engine/FetchedPages;" .null := D4 (Or.inr (hw _ (List.mem_of_getElem? (i := 43) rfl))) (ty := (.object "com/example/score_on_crawl/scoreoncrawl/engine/FetchedPages")) (by decide)
  have f9 : Fld Z h4 sq "com/example/score_on_crawl/scoreoncrawl/engine/BreadthFirstSequence" "cursor" "I" (.int (0 : Int32)) := D4 (Or.inl (hw _ (List.mem_of_getElem? (i := 54) rfl))) (ty := .int) (by decide)
  have f10 : Fld Z h4 sq "com/example/score_on_crawl/scoreoncrawl/engine/BreadthFirstSequence" "pages" "I" (.int (0 : Int32)) := D4 (Or.inl (hw _ (List.mem_of_getElem? (i := 56) rfl))) (ty := .int) (by decide)
  show OwnG p e below s _ _ _ (T4.setTop (mkF m 159 #[.val (.int va), .val (.int vb), .val (.int vc), .val (.int vd), .val (.int ve), .val (.int (2 : Int32)), .val (.int (1 : Int32)), .val (.int (3 : Int32)), .val (.int ds), .val (.int te), .val (.int pa), .val (.int pb), .val (.int qa), .val (.int qb), .val (.int qc), .val (.ref lk), .unset, .unset, .unset, .unset, .unset, .unset, .unset, .unset] [(.ref sq)]))
  refine own_by (fun t kk_ => XS.dup X4.here hx rfl (hb hby at_159) rfl rfl kk_) ?_
  show OwnG p e below s _ _ _ (T4.setTop (mkF m 160 #[.val (.int va), .val (.int vb), .val (.int vc), .val (.int vd), .val (.int ve), .val (.int (2 : Int32)), .val (.int (1 : Int32)), .val (.int (3 : Int32)), .val (.int ds), .val (.int te), .val (.int pa), .val (.int pb), .val (.int qa), .val (.int qb), .val (.int qc), .val (.ref lk), .unset, .unset, .unset, .unset, .unset, .unset, .unset, .unset] [(.ref sq), (.ref sq)]))
  obtain ⟨_, _, ⟨T11, L11, k11, n11⟩, -, X11, ⟨Lc11, hQ11, l11, y11, z11⟩, st11⟩ := X4.specialBack hx (y := (⟨"com/example/score_on_crawl/scoreoncrawl/engine/BreadthFirstSequence", "<init>", "()V"⟩ : MethodName)) rfl hown (mvT hZ (hw _ (List.mem_of_getElem? (i := 5) rfl))) (mvT hZ (hw _ (List.mem_of_getElem? (i := 6) rfl))) (mvT hZ (hw _ (List.mem_of_getElem? (i := 7) rfl))) (by decide) (backOf (W := 1) (rm1 l Z a0 hw [] sq h4 n0 sz4 A4 f8 f10 f9 f6 gg_sq) hZ (hw _ (List.mem_of_getElem? (i := 7) rfl)) (hw _ (List.mem_of_getElem? (i := 4) rfl)) (by decide) (by decide)) (g := (mkF m 160 #[.val (.int va), .val (.int vb), .val (.int vc), .val (.int vd), .val (.int ve), .val (.int (2 : Int32)), .val (.int (1 : Int32)), .val (.int (3 : Int32)), .val (.int ds), .val (.int te), .val (.int pa), .val (.int pb), .val (.int qa), .val (.int qb), .val (.int qc), .val (.ref lk), .unset, .unset, .unset, .unset, .unset, .unset, .unset, .unset] [(.ref sq), (.ref sq)])) rfl (by rw [hml]; rfl) (Steps.refl _) (a := sq) (argsL := []) (rest := [(.ref sq)]) (lenOf pd_2 rfl) rfl (by show 2 * 0 + _ ≤ _; exact Nat.le_of_eq rfl) (hb hby at_160) (fun _ _ => ⟨rfl, e4, (by decide : 0 + 1 + 1 + 3 ≤ _), (by decide : 0 + 3 + 5 ≤ _)⟩)
  dsimp only [Pt.U, Pt.locs, Pt.cells, Pt.slots] at X11 l11 y11 z11 st11 hQ11
  subst l11 y11 z11
  refine own_by (fun t kk_ => st11.trans kk_) ?_
  obtain ⟨rfl, N11q, fp, bs, wa, S11, Nn⟩ := hQ11
  have N11 := Fr.app N0 N11q
  have sz11 : n0 ≤ T11.heap.size := Nat.le_trans Nn.1 (Nat.le_of_lt (Exa.lt S11.1))
  show OwnG p e below s _ _ _ (T11.setTop (mkF m 163 #[.val (.int va), .val (.int vb), .val (.int vc), .val (.int vd), .val (.int ve), .val (.int (2 : Int32)), .val (.int (1 : Int32)), .val (.int (3 : Int32)), .val (.int ds), .val (.int te), .val (.int pa), .val (.int pb), .val (.int qa), .val (.int qb), .val (.int qc), .val (.ref lk), .unset, .unset, .unset, .unset, .unset, .unset, .unset, .unset] [(.ref sq)]))
  refine own_by (fun t kk_ => XS.astore X11.here hx rfl (hb hby at_163) rfl rfl (l' := #[.val (.int va), .val (.int vb), .val (.int vc), .val (.int vd), .val (.int ve), .val (.int (2 : Int32)), .val (.int (1 : Int32)), .val (.int (3 : Int32)), .val (.int ds), .val (.int te), .val (.int pa), .val (.int pb), .val (.int qa), .val (.int qb), .val (.int qc), .val (.ref lk), .val (.ref sq), .unset, .unset, .unset, .unset, .unset, .unset, .unset]) rfl kk_) ?_
  show OwnG p e below s _ _ _ (T11.setTop (mkF m 165 #[.val (.int va), .val (.int vb), .val (.int vc), .val (.int vd), .val (.int ve), .val (.int (2 : Int32)), .val (.int (1 : Int32)), .val (.int (3 : Int32)), .val (.int ds), .val (.int te), .val (.int pa), .val (.int pb), .val (.int qa), .val (.int qb), .val (.int qc), .val (.ref lk), .val (.ref sq), .unset, .unset, .unset, .unset, .unset, .unset, .unset] []))
  refine own_by (fun t kk_ => XS.iload X11.here hx rfl (hb hby at_165) rfl  kk_) ?_
  show OwnG p e below s _ _ _ (T11.setTop (mkF m 167 #[.val (.int va), .val (.int vb), .val (.int vc), .val (.int vd), .val (.int ve), .val (.int (2 : Int32)), .val (.int (1 : Int32)), .val (.int (3 : Int32)), .val (.int ds), .val (.int te), .val (.int pa), .val (.int pb), .val (.int qa), .val (.int qb), .val (.int qc), .val (.ref lk), .val (.ref sq), .unset, .unset, .unset, .unset, .unset, .unset, .unset] [(.int (2 : Int32))]))
  refine own_by (fun t kk_ => XS.ifNo X11.here hx rfl (hb hby at_167) rfl ((if0 _ _).trans (tlt (by decide)).2.2.2) kk_) ?_
  show OwnG p e below s _ _ _ (T11.setTop (mkF m 170 #[.val (.int va), .val (.int vb), .val (.int vc), .val (.int vd), .val (.int ve), .val (.int (2 : Int32)), .val (.int (1 : Int32)), .val (.int (3 : Int32)), .val (.int ds), .val (.int te), .val (.int pa), .val (.int pb), .val (.int qa), .val (.int qb), .val (.int qc), .val (.ref lk), .val (.ref sq), .unset, .unset, .unset, .unset, .unset, .unset, .unset] []))
  refine own_by (fun t kk_ => XS.aload X11.here hx rfl (hb hby at_170) rfl rfl kk_) ?_
  show OwnG p e below s _ _ _ (T11.setTop (mkF m 172 #[.val (.int va), .val (.int vb), .val (.int vc), .val (.int vd), .val (.int ve), .val (.int (2 : Int32)), .val (.int (1 : Int32)), .val (.int (3 : Int32)), .val (.int ds), .val (.int te), .val (.int pa), .val (.int pb), .val (.int qa), .val (.int qb), .val (.int qc), .val (.ref lk), .val (.ref sq), .unset, .unset, .unset, .unset, .unset, .unset, .unset] [(.ref sq)]))
  refine own_by (fun t kk_ => XS.iconst X11.here hx rfl (hb hby at_172) kk_) ?_
  show OwnG p e below s _ _ _ (T11.setTop (mkF m 173 #[.val (.int va), .val (.int vb), .val (.int vc), .val (.int vd), .val (.int ve), .val (.int (2 : Int32)), .val (.int (1 : Int32)), .val (.int (3 : Int32)), .val (.int ds), .val (.int te), .val (.int pa), .val (.int pb), .val (.int qa), .val (.int qb), .val (.int qc), .val (.ref lk), .val (.ref sq), .unset, .unset, .unset, .unset, .unset, .unset, .unset] [(.int (0 : Int32)), (.ref sq)]))
  refine own_by (fun t kk_ => XS.iload X11.here hx rfl (hb hby at_173) rfl  kk_) ?_
  show OwnG p e below s _ _ _ (T11.setTop (mkF m 175 #[.val (.int va), .val (.int vb), .val (.int vc), .val (.int vd), .val (.int ve), .val (.int (2 : Int32)), .val (.int (1 : Int32)), .val (.int (3 : Int32)), .val (.int ds), .val (.int te), .val (.int pa), .val (.int pb), .val (.int qa), .val (.int qb), .val (.int qc), .val (.ref lk), .val (.ref sq), .unset, .unset, .unset, .unset, .unset, .unset, .unset] [(.int te), (.int (0 : Int32)), (.ref sq)]))
  obtain ⟨cq12, kq12, q12a, q12b, q12c⟩ := isOf hZ (rfl : T11.heap = T11.heap) S11.1
  obtain ⟨_, _, ⟨T12, L12, k12, n12⟩, -, X12, ⟨Lc12, hQ12, l12, y12, z12⟩, st12⟩ := X11.virtualBack hx (y := (⟨"com/example/score_on_crawl/scoreoncrawl/engine/BreadthFirstSequence", "added", "(IZ)V"⟩ : MethodName)) (z := (⟨"com/example/score_on_crawl/scoreoncrawl/engine/BreadthFirstSequence", "added", "(IZ)V"⟩ : MethodName)) hown (mvT hZ (hw _ (List.mem_of_getElem? (i := 57) rfl))) (mvT hZ (hw _ (List.mem_of_getElem? (i := 58) rfl))) (notFace_of_selects (args := #[]) (mvT hZ (hw _ (List.mem_of_getElem? (i := 60) rfl)))) (mvT hZ (hw _ (List.mem_of_getElem? (i := 60) rfl))) (mvT hZ (hw _ (List.mem_of_getElem? (i := 59) rfl))) (by decide) (backOf (W := 0) (rm9 l Z a0 hw [] sq fp bs wa (0 : Int32) (0 : Int32) (0 : Int32) (0 : Int32) te (1 : Int32) (0 : Int64) T11.heap n0 sz11 ⟨S11.1, S11.2.1, S11.2.2.1, S11.2.2.2.1, ⟨S11.2.2.2.2.1, S11.2.2.2.2.2.1, ⟨S11.2.2.2.2.2.2.1, S11.2.2.2.2.2.2.2.1, S11.2.2.2.2.2.2.2.2.1, S11.2.2.2.2.2.2.2.2.2.1, S11.2.2.2.2.2.2.2.2.2.2⟩⟩⟩ Nn (by decide)) hZ (hw _ (List.mem_of_getElem? (i := 61) rfl)) (hw _ (List.mem_of_getElem? (i := 4) rfl)) (by decide) (by decide)) q12a q12c (g := (mkF m 175 #[.val (.int va), .val (.int vb), .val (.int vc), .val (.int vd), .val (.int ve), .val (.int (2 : Int32)), .val (.int (1 : Int32)), .val (.int (3 : Int32)), .val (.int ds), .val (.int te), .val (.int pa), .val (.int pb), .val (.int qa), .val (.int qb), .val (.int qc), .val (.ref lk), .val (.ref sq), .unset, .unset, .unset, .unset, .unset, .unset, .unset] [(.int te), (.int (0 : Int32)), (.ref sq)])) rfl (by rw [hml]; rfl) (Steps.refl _) (argsL := [(.int (0 : Int32)), (.int te)]) (rest := []) (lenOf pd_5 rfl) rfl (by show 2 * 0 + _ ≤ _; exact Nat.le_of_eq rfl) (hb hby at_175) (fun _ _ => ⟨rfl, (rfl : T11.heap = T11.heap), (by decide : 0 + 1 + 1 + 3 + 0 ≤ _), (by decide : 0 + 3 + 5 + 0 ≤ _)⟩)
  dsimp only [Pt.U, Pt.locs, Pt.cells, Pt.slots] at X12 l12 y12 z12 st12 hQ12
  subst l12 y12 z12
  refine own_by (fun t kk_ => st12.trans kk_) ?_
  obtain ⟨rfl, N12q, S12⟩ := hQ12
  have N12 := Fr.app N11 N12q
  have sz12 : n0 ≤ T12.heap.size := Nat.le_trans Nn.1 (Nat.le_of_lt (Exa.lt S12.1))
  show OwnG p e below s _ _ _ (T12.setTop (mkF m 178 #[.val (.int va), .val (.int vb), .val (.int vc), .val (.int vd), .val (.int ve), .val (.int (2 : Int32)), .val (.int (1 : Int32)), .val (.int (3 : Int32)), .val (.int ds), .val (.int te), .val (.int pa), .val (.int pb), .val (.int qa), .val (.int qb), .val (.int qc), .val (.ref lk), .val (.ref sq), .unset, .unset, .unset, .unset, .unset, .unset, .unset] []))
  refine own_by (fun t kk_ => XS.iload X12.here hx rfl (hb hby at_178) rfl  kk_) ?_
  show OwnG p e below s _ _ _ (T12.setTop (mkF m 180 #[.val (.int va), .val (.int vb), .val (.int vc), .val (.int vd), .val (.int ve), .val (.int (2 : Int32)), .val (.int (1 : Int32)), .val (.int (3 : Int32)), .val (.int ds), .val (.int te), .val (.int pa), .val (.int pb), .val (.int qa), .val (.int qb), .val (.int qc), .val (.ref lk), .val (.ref sq), .unset, .unset, .unset, .unset, .unset, .unset, .unset] [(.int (2 : Int32))]))
  refine own_by (fun t kk_ => XS.iconst X12.here hx rfl (hb hby at_180) kk_) ?_
  show OwnG p e below s _ _ _ (T12.setTop (mkF m 181 #[.val (.int va), .val (.int vb), .val (.int vc), .val (.int vd), .val (.int ve), .val (.int (2 : Int32)), .val (.int (1 : Int32)), .val (.int (3 : Int32)), .val (.int ds), .val (.int te), .val (.int pa), .val (.int pb), .val (.int qa), .val (.int qb), .val (.int qc), .val (.ref lk), .val (.ref sq), .unset, .unset, .unset, .unset, .unset, .unset, .unset] [(.int (1 : Int32)), (.int (2 : Int32))]))
  refine own_by (fun t kk_ => XS.icmpNo X12.here hx rfl (hb hby at_181) rfl (tlt (by decide)).2.2.2 kk_) ?_
  show OwnG p e below s _ _ _ (T12.setTop (mkF m 184 #[.val (.int va), .val (.int vb), .val (.int vc), .val (.int vd), .val (.int ve), .val (.int (2 : Int32)), .val (.int (1 : Int32)), .val (.int (3 : Int32)), .val (.int ds), .val (.int te), .val (.int pa), .val (.int pb), .val (.int qa), .val (.int qb), .val (.int qc), .val (.ref lk), .val (.ref sq), .unset, .unset, .unset, .unset, .unset, .unset, .unset] []))
  refine own_by (fun t kk_ => XS.aload X12.here hx rfl (hb hby at_184) rfl rfl kk_) ?_
  show OwnG p e below s _ _ _ (T12.setTop (mkF m 186 #[.val (.int va), .val (.int vb), .val (.int vc), .val (.int vd), .val (.int ve), .val (.int (2 : Int32)), .val (.int (1 : Int32)), .val (.int (3 : Int32)), .val (.int ds), .val (.int te), .val (.int pa), .val (.int pb), .val (.int qa), .val (.int qb), .val (.int qc), .val (.ref lk), .val (.ref sq), .unset, .unset, .unset, .unset, .unset, .unset, .unset] [(.ref sq)]))
  refine own_by (fun t kk_ => XS.iconst X12.here hx rfl (hb hby at_186) kk_) ?_
  show OwnG p e below s _ _ _ (T12.setTop (mkF m 187 #[.val (.int va), .val (.int vb), .val (.int vc), .val (.int vd), .val (.int ve), .val (.int (2 : Int32)), .val (.int (1 : Int32)), .val (.int (3 : Int32)), .val (.int ds), .val (.int te), .val (.int pa), .val (.int pb), .val (.int qa), .val (.int qb), .val (.int qc), .val (.ref lk), .val (.ref sq), .unset, .unset, .unset, .unset, .unset, .unset, .unset] [(.int (1 : Int32)), (.ref sq)]))
  refine own_by (fun t kk_ => XS.iload X12.here hx rfl (hb hby at_187) rfl  kk_) ?_
  show OwnG p e below s _ _ _ (T12.setTop (mkF m 189 #[.val (.int va), .val (.int vb), .val (.int vc), .val (.int vd), .val (.int ve), .val (.int (2 : Int32)), .val (.int (1 : Int32)), .val (.int (3 : Int32)), .val (.int ds), .val (.int te), .val (.int pa), .val (.int pb), .val (.int qa), .val (.int qb), .val (.int qc), .val (.ref lk), .val (.ref sq), .unset, .unset, .unset, .unset, .unset, .unset, .unset] [(.int te), (.int (1 : Int32)), (.ref sq)]))
  by_cases hb189_13 : te = (0 : Int32)
  · refine own_by (fun t kk_ => XS.ifNo X12.here hx rfl (hb hby at_189) rfl ((if0 _ _).trans (teq hb189_13).2) kk_) ?_
    show OwnG p e below s _ _ _ (T12.setTop (mkF m 192 #[.val (.int va), .val (.int vb), .val (.int vc), .val (.int vd), .val (.int ve), .val (.int (2 : Int32)), .val (.int (1 : Int32)), .val (.int (3 : Int32)), .val (.int ds), .val (.int te), .val (.int pa), .val (.int pb), .val (.int qa), .val (.int qb), .val (.int qc), .val (.ref lk), .val (.ref sq), .unset, .unset, .unset, .unset, .unset, .unset, .unset] [(.int (1 : Int32)), (.ref sq)]))
    refine own_by (fun t kk_ => XS.iconst X12.here hx rfl (hb hby at_192) kk_) ?_
    show OwnG p e below s _ _ _ (T12.setTop (mkF m 193 #[.val (.int va), .val (.int vb), .val (.int vc), .val (.int vd), .val (.int ve), .val (.int (2 : Int32)), .val (.int (1 : Int32)), .val (.int (3 : Int32)), .val (.int ds), .val (.int te), .val (.int pa), .val (.int pb), .val (.int qa), .val (.int qb), .val (.int qc), .val (.ref lk), .val (.ref sq), .unset, .unset, .unset, .unset, .unset, .unset, .unset] [(.int (1 : Int32)), (.int (1 : Int32)), (.ref sq)]))
    refine own_by (fun t kk_ => XS.goto X12.here hx rfl (pc0 := 193) (pc' := 197) rfl (hb hby at_193) (by decide) (by decide) kk_) ?_
    show OwnG p e below s _ _ _ (T12.setTop (mkF m 197 #[.val (.int va), .val (.int vb), .val (.int vc), .val (.int vd), .val (.int ve), .val (.int (2 : Int32)), .val (.int (1 : Int32)), .val (.int (3 : Int32)), .val (.int ds), .val (.int te), .val (.int pa), .val (.int pb), .val (.int qa), .val (.int qb), .val (.int qc), .val (.ref lk), .val (.ref sq), .unset, .unset, .unset, .unset, .unset, .unset, .unset] [(.int (1 : Int32)), (.int (1 : Int32)), (.ref sq)]))
    obtain ⟨cq14, kq14, q14a, q14b, q14c⟩ := isOf hZ (rfl : T12.heap = T12.heap) S12.1
    obtain ⟨_, _, ⟨T14, L14, k14, n14⟩, -, X14, ⟨Lc14, hQ14, l14, y14, z14⟩, st14⟩ := X12.virtualBack hx (y := (⟨"com/example/score_on_crawl/scoreoncrawl/engine/BreadthFirstSequence", "added", "(IZ)V"⟩ : MethodName)) (z := (⟨"com/example/score_on_crawl/scoreoncrawl/engine/BreadthFirstSequence", "added", "(IZ)V"⟩ : MethodName)) hown (mvT hZ (hw _ (List.mem_of_getElem? (i := 57) rfl))) (mvT hZ (hw _ (List.mem_of_getElem? (i := 58) rfl))) (notFace_of_selects (args := #[]) (mvT hZ (hw _ (List.mem_of_getElem? (i := 60) rfl)))) (mvT hZ (hw _ (List.mem_of_getElem? (i := 60) rfl))) (mvT hZ (hw _ (List.mem_of_getElem? (i := 59) rfl))) (by decide) (backOf (W := 0) (rm9 l Z a0 hw [] sq fp bs wa (1 : Int32) (0 : Int32) (0 : Int32) (1 : Int32) (1 : Int32) (2 : Int32) (0 : Int64) T12.heap n0 sz12 ⟨S12.1, S12.2.1, S12.2.2.1, S12.2.2.2.1, ⟨S12.2.2.2.2.1, S12.2.2.2.2.2.1, ⟨S12.2.2.2.2.2.2.1, S12.2.2.2.2.2.2.2.1, S12.2.2.2.2.2.2.2.2.1, S12.2.2.2.2.2.2.2.2.2.1, S12.2.2.2.2.2.2.2.2.2.2⟩⟩⟩ Nn (by decide)) hZ (hw _ (List.mem_of_getElem? (i := 61) rfl)) (hw _ (List.mem_of_getElem? (i := 4) rfl)) (by decide) (by decide)) q14a q14c (g := (mkF m 197 #[.val (.int va), .val (.int vb), .val (.int vc), .val (.int vd), .val (.int ve), .val (.int (2 : Int32)), .val (.int (1 : Int32)), .val (.int (3 : Int32)), .val (.int ds), .val (.int te), .val (.int pa), .val (.int pb), .val (.int qa), .val (.int qb), .val (.int qc), .val (.ref lk), .val (.ref sq), .unset, .unset, .unset, .unset, .unset, .unset, .unset] [(.int (1 : Int32)), (.int (1 : Int32)), (.ref sq)])) rfl (by rw [hml]; rfl) (Steps.refl _) (argsL := [(.int (1 : Int32)), (.int (1 : Int32))]) (rest := []) (lenOf pd_5 rfl) rfl (by show 2 * 0 + _ ≤ _; exact Nat.le_of_eq rfl) (hb hby at_197) (fun _ _ => ⟨rfl, (rfl : T12.heap = T12.heap), (by decide : 0 + 1 + 1 + 3 + 0 ≤ _), (by decide : 0 + 3 + 5 + 0 ≤ _)⟩)
    dsimp only [Pt.U, Pt.locs, Pt.cells, Pt.slots] at X14 l14 y14 z14 st14 hQ14
    subst l14 y14 z14
    refine own_by (fun t kk_ => st14.trans kk_) ?_
    obtain ⟨rfl, N14q, S14⟩ := hQ14
    have N14 := Fr.app N12 N14q
    have sz14 : n0 ≤ T14.heap.size := Nat.le_trans Nn.1 (Nat.le_of_lt (Exa.lt S14.1))
    show OwnG p e below s _ _ _ (T14.setTop (mkF m 200 #[.val (.int va), .val (.int vb), .val (.int vc), .val (.int vd), .val (.int ve), .val (.int (2 : Int32)), .val (.int (1 : Int32)), .val (.int (3 : Int32)), .val (.int ds), .val (.int te), .val (.int pa), .val (.int pb), .val (.int qa), .val (.int qb), .val (.int qc), .val (.ref lk), .val (.ref sq), .unset, .unset, .unset, .unset, .unset, .unset, .unset] []))
    refine own_by (fun t kk_ => XS.aload X14.here hx rfl (hb hby at_200) rfl rfl kk_) ?_
    show OwnG p e below s _ _ _ (T14.setTop (mkF m 202 #[.val (.int va), .val (.int vb), .val (.int vc), .val (.int vd), .val (.int ve), .val (.int (2 : Int32)), .val (.int (1 : Int32)), .val (.int (3 : Int32)), .val (.int ds), .val (.int te), .val (.int pa), .val (.int pb), .val (.int qa), .val (.int qb), .val (.int qc), .val (.ref lk), .val (.ref sq), .unset, .unset, .unset, .unset, .unset, .unset, .unset] [(.ref sq)]))
    refine own_by (fun t kk_ => XS.iload X14.here hx rfl (hb hby at_202) rfl  kk_) ?_
    show OwnG p e below s _ _ _ (T14.setTop (mkF m 204 #[.val (.int va), .val (.int vb), .val (.int vc), .val (.int vd), .val (.int ve), .val (.int (2 : Int32)), .val (.int (1 : Int32)), .val (.int (3 : Int32)), .val (.int ds), .val (.int te), .val (.int pa), .val (.int pb), .val (.int qa), .val (.int qb), .val (.int qc), .val (.ref lk), .val (.ref sq), .unset, .unset, .unset, .unset, .unset, .unset, .unset] [(.int pa), (.ref sq)]))
    refine own_by (fun t kk_ => XS.iload X14.here hx rfl (hb hby at_204) rfl  kk_) ?_
    show OwnG p e below s _ _ _ (T14.setTop (mkF m 206 #[.val (.int va), .val (.int vb), .val (.int vc), .val (.int vd), .val (.int ve), .val (.int (2 : Int32)), .val (.int (1 : Int32)), .val (.int (3 : Int32)), .val (.int ds), .val (.int te), .val (.int pa), .val (.int pb), .val (.int qa), .val (.int qb), .val (.int qc), .val (.ref lk), .val (.ref sq), .unset, .unset, .unset, .unset, .unset, .unset, .unset] [(.int pb), (.int pa), (.ref sq)]))
    refine own_by (fun t kk_ => XS.iload X14.here hx rfl (hb hby at_206) rfl  kk_) ?_
    show OwnG p e below s _ _ _ (T14.setTop (mkF m 208 #[.val (.int va), .val (.int vb), .val (.int vc), .val (.int vd), .val (.int ve), .val (.int (2 : Int32)), .val (.int (1 : Int32)), .val (.int (3 : Int32)), .val (.int ds), .val (.int te), .val (.int pa), .val (.int pb), .val (.int qa), .val (.int qb), .val (.int qc), .val (.ref lk), .val (.ref sq), .unset, .unset, .unset, .unset, .unset, .unset, .unset] [(.int ds), (.int pb), (.int pa), (.ref sq)]))
    refine own_by (fun t kk_ => XS.aload X14.here hx rfl (hb hby at_208) rfl rfl kk_) ?_
    show OwnG p e below s _ _ _ (T14.setTop (mkF m 210 #[.val (.int va), .val (.int vb), .val (.int vc), .val (.int vd), .val (.int ve), .val (.int (2 : Int32)), .val (.int (1 : Int32)), .val (.int (3 : Int32)), .val (.int ds), .val (.int te), .val (.int pa), .val (.int pb), .val (.int qa), .val (.int qb), .val (.int qc), .val (.ref lk), .val (.ref sq), .unset, .unset, .unset, .unset, .unset, .unset, .unset] [(.ref lk), (.int ds), (.int pb), (.int pa), (.ref sq)]))
    obtain ⟨_, _, ⟨T15, L15, k15, n15⟩, -, X15, ⟨Lc15, hQ15, l15, y15, z15⟩, st15⟩ := Jvm.LawKit.callS X14 hx (y := (⟨"com/example/score_on_crawl/scoreoncrawl/engine/BreadthFirstSequenceHasNextPinLaw", "fetchTwo", "(Lcom/example/score_on_crawl/scoreoncrawl/engine/BreadthFirstSequence;ZZZ[I)V"⟩ : MethodName)) hown (mvT hZ (hw _ (List.mem_of_getElem? (i := 44) rfl))) (mvT hZ (hw _ (List.mem_of_getElem? (i := 45) rfl))) (mvT hZ (hw _ (List.mem_of_getElem? (i := 46) rfl))) (mvT hZ (hw _ (List.mem_of_getElem? (i := 47) rfl))) (by decide) (backOf (W := 0) (rm7 l Z a0 hw [] sq fp bs wa lk (2 : Int32) (0 : Int32) (0 : Int32) pa pb ds (0 : Int64) T14.heap n0 sz14 ⟨S14.1, S14.2.1, S14.2.2.1, S14.2.2.2.1, ⟨S14.2.2.2.2.1, S14.2.2.2.2.2.1, ⟨S14.2.2.2.2.2.2.1, S14.2.2.2.2.2.2.2.1, S14.2.2.2.2.2.2.2.2.1, S14.2.2.2.2.2.2.2.2.2.1, S14.2.2.2.2.2.2.2.2.2.2⟩⟩⟩ Nn (Or.inl rfl) (Or.inl rfl) rfl) hZ (hw _ (List.mem_of_getElem? (i := 47) rfl)) (hw _ (List.mem_of_getElem? (i := 46) rfl)) (by decide) (by decide)) (g := (mkF m 210 #[.val (.int va), .val (.int vb), .val (.int vc), .val (.int vd), .val (.int ve), .val (.int (2 : Int32)), .val (.int (1 : Int32)), .val (.int (3 : Int32)), .val (.int ds), .val (.int te), .val (.int pa), .val (.int pb), .val (.int qa), .val (.int qb), .val (.int qc), .val (.ref lk), .val (.ref sq), .unset, .unset, .unset, .unset, .unset, .unset, .unset] [(.ref lk), (.int ds), (.int pb), (.int pa), (.ref sq)])) rfl (by rw [hml]; rfl) (argsL := [(.ref sq), (.int pa), (.int pb), (.int ds), (.ref lk)]) (rest := []) (lenOf pd_6 rfl) rfl (by show 2 * 0 + _ ≤ _; exact Nat.le_of_eq rfl) (hb hby at_210) (fun _ _ => ⟨rfl, (rfl : T14.heap = T14.heap), (by decide : 0 + 1 + 1 + 3 + 0 ≤ _), (by decide : 0 + 3 + 5 + 0 ≤ _)⟩)
    dsimp only [Pt.U, Pt.locs, Pt.cells, Pt.slots] at X15 l15 y15 z15 st15 hQ15
    subst l15 y15 z15
    refine own_by (fun t kk_ => st15 _ kk_) ?_
    obtain ⟨rfl, N15q, u15, hm15, hu15, S15⟩ := hQ15
    have N15 := Fr.app N14 N15q
    have sz15 : n0 ≤ T15.heap.size := Nat.le_trans Nn.1 (Nat.le_of_lt (Exa.lt S15.1))
    show OwnG p e below s _ _ _ (T15.setTop (mkF m 213 #[.val (.int va), .val (.int vb), .val (.int vc), .val (.int vd), .val (.int ve), .val (.int (2 : Int32)), .val (.int (1 : Int32)), .val (.int (3 : Int32)), .val (.int ds), .val (.int te), .val (.int pa), .val (.int pb), .val (.int qa), .val (.int qb), .val (.int qc), .val (.ref lk), .val (.ref sq), .unset, .unset, .unset, .unset, .unset, .unset, .unset] []))
    refine own_by (fun t kk_ => XS.aload X15.here hx rfl (hb hby at_213) rfl rfl kk_) ?_
    show OwnG p e below s _ _ _ (T15.setTop (mkF m 215 #[.val (.int va), .val (.int vb), .val (.int vc), .val (.int vd), .val (.int ve), .val (.int (2 : Int32)), .val (.int (1 : Int32)), .val (.int (3 : Int32)), .val (.int ds), .val (.int te), .val (.int pa), .val (.int pb), .val (.int qa), .val (.int qb), .val (.int qc), .val (.ref lk), .val (.ref sq), .unset, .unset, .unset, .unset, .unset, .unset, .unset] [(.ref sq)]))
    obtain ⟨cq16, kq16, q16a, q16b, q16c⟩ := isOf hZ (rfl : T15.heap = T15.heap) S15.1
    obtain ⟨_, _, ⟨T16, L16, k16, n16⟩, -, X16, ⟨Lc16, hQ16, l16, y16, z16⟩, st16⟩ := X15.virtualBack hx (y := (⟨"com/example/score_on_crawl/scoreoncrawl/engine/BreadthFirstSequence", "hasNext", "()Z"⟩ : MethodName)) (z := (⟨"com/example/score_on_crawl/scoreoncrawl/engine/BreadthFirstSequence", "hasNext", "()Z"⟩ : MethodName)) hown (mvT hZ (hw _ (List.mem_of_getElem? (i := 48) rfl))) (mvT hZ (hw _ (List.mem_of_getElem? (i := 49) rfl))) (notFace_of_selects (args := #[]) (mvT hZ (hw _ (List.mem_of_getElem? (i := 51) rfl)))) (mvT hZ (hw _ (List.mem_of_getElem? (i := 51) rfl))) (mvT hZ (hw _ (List.mem_of_getElem? (i := 50) rfl))) (by decide) (backOf (W := 0) (rm8 l Z a0 hw [] sq fp bs wa (2 : Int32) (own_c (own_set (0 : Int64) pa pb 0)) u15 (own_set (0 : Int64) pa pb 0) T15.heap n0 sz15 ⟨S15.1, S15.2.1, S15.2.2.1, S15.2.2.2.1, ⟨S15.2.2.2.2.1, S15.2.2.2.2.2.1, ⟨S15.2.2.2.2.2.2.1, S15.2.2.2.2.2.2.2.1, S15.2.2.2.2.2.2.2.2.1, S15.2.2.2.2.2.2.2.2.2.1, S15.2.2.2.2.2.2.2.2.2.2⟩⟩⟩) hZ (hw _ (List.mem_of_getElem? (i := 52) rfl)) (hw _ (List.mem_of_getElem? (i := 4) rfl)) (by decide) (by decide)) q16a q16c (g := (mkF m 215 #[.val (.int va), .val (.int vb), .val (.int vc), .val (.int vd), .val (.int ve), .val (.int (2 : Int32)), .val (.int (1 : Int32)), .val (.int (3 : Int32)), .val (.int ds), .val (.int te), .val (.int pa), .val (.int pb), .val (.int qa), .val (.int qb), .val (.int qc), .val (.ref lk), .val (.ref sq), .unset, .unset, .unset, .unset, .unset, .unset, .unset] [(.ref sq)])) rfl (by rw [hml]; rfl) (Steps.refl _) (argsL := []) (rest := []) (lenOf pd_7 rfl) rfl (by show 2 * 0 + _ ≤ _; exact Nat.le_of_eq rfl) (hb hby at_215) (fun _ _ => ⟨rfl, (rfl : T15.heap = T15.heap), (by decide : 0 + 1 + 1 + 3 + 0 ≤ _), (by decide : 0 + 3 + 5 + 0 ≤ _)⟩)
    dsimp only [Pt.U, Pt.locs, Pt.cells, Pt.slots] at X16 l16 y16 z16 st16 hQ16
    subst l16 y16 z16
    refine own_by (fun t kk_ => st16.trans kk_) ?_
    obtain ⟨rfl, N16q, hh16⟩ := hQ16
    have N16 := Fr.app N15 N16q
    have f17 := S15.1
    rw [← hh16] at f17
    have f18 := S15.2.1
    rw [← hh16] at f18
    have f19 := S15.2.2.1
    rw [← hh16] at f19
    have f20 := S15.2.2.2.1
    rw [← hh16] at f20
    have f21 := S15.2.2.2.2.1
    rw [← hh16] at f21
    have f22 := S15.2.2.2.2.2.1
    rw [← hh16] at f22
    have f23 := S15.2.2.2.2.2.2.1
    rw [← hh16] at f23
    have f24 := S15.2.2.2.2.2.2.2.1
    rw [← hh16] at f24
    have f25 := S15.2.2.2.2.2.2.2.2.1
    rw [← hh16] at f25
    have f26 := S15.2.2.2.2.2.2.2.2.2.1
    rw [← hh16] at f26
    have f27 := S15.2.2.2.2.2.2.2.2.2.2
    rw [← hh16] at f27
    have sz16 : n0 ≤ T16.heap.size := by rw [hh16]; exact sz15
    show OwnG p e below s _ _ _ (T16.setTop (mkF m 218 #[.val (.int va), .val (.int vb), .val (.int vc), .val (.int vd), .val (.int ve), .val (.int (2 : Int32)), .val (.int (1 : Int32)), .val (.int (3 : Int32)), .val (.int ds), .val (.int te), .val (.int pa), .val (.int pb), .val (.int qa), .val (.int qb), .val (.int qc), .val (.ref lk), .val (.ref sq), .unset, .unset, .unset, .unset, .unset, .unset, .unset] [(.int (own_lt (own_c (own_set (0 : Int64) pa pb 0)) (2 : Int32)))]))
    refine own_by (fun t kk_ => XS.istore X16.here hx rfl (hb hby at_218) rfl (l' := #[.val (.int va), .val (.int vb), .val (.int vc), .val (.int vd), .val (.int ve), .val (.int (2 : Int32)), .val (.int (1 : Int32)), .val (.int (3 : Int32)), .val (.int ds), .val (.int te), .val (.int pa), .val (.int pb), .val (.int qa), .val (.int qb), .val (.int qc), .val (.ref lk), .val (.ref sq), .val (.int (own_lt (own_c (own_set (0 : Int64) pa pb 0)) (2 : Int32))), .unset, .unset, .unset, .unset, .unset, .unset]) rfl kk_) ?_
    show OwnG p e below s _ _ _ (T16.setTop (mkF m 220 #[.val (.int va), .val (.int vb), .val (.int vc), .val (.int vd), .val (.int ve), .val (.int (2 : Int32)), .val (.int (1 : Int32)), .val (.int (3 : Int32)), .val (.int ds), .val (.int te), .val (.int pa), .val (.int pb), .val (.int qa), .val (.int qb), .val (.int qc), .val (.ref lk), .val (.ref sq), .val (.int (own_lt (own_c (own_set (0 : Int64) pa pb 0)) (2 : Int32))), .unset, .unset, .unset, .unset, .unset, .unset] []))
    refine own_by (fun t kk_ => XS.iload X16.here hx rfl (hb hby at_220) rfl  kk_) ?_
    show OwnG p e below s _ _ _ (T16.setTop (mkF m 222 #[.val (.int va), .val (.int vb), .val (.int vc), .val (.int vd), .val (.int ve), .val (.int (2 : Int32)), .val (.int (1 : Int32)), .val (.int (3 : Int32)), .val (.int ds), .val (.int te), .val (.int pa), .val (.int pb), .val (.int qa), .val (.int qb), .val (.int qc), .val (.ref lk), .val (.ref sq), .val (.int (own_lt (own_c (own_set (0 : Int64) pa pb 0)) (2 : Int32))), .unset, .unset, .unset, .unset, .unset, .unset] [(.int (1 : Int32))]))
    refine own_by (fun t kk_ => XS.ifNo X16.here hx rfl (hb hby at_222) rfl ((if0 _ _).trans (tlt (by decide)).2.2.2) kk_) ?_
    show OwnG p e below s _ _ _ (T16.setTop (mkF m 225 #[.val (.int va), .val (.int vb), .val (.int vc), .val (.int vd), .val (.int ve), .val (.int (2 : Int32)), .val (.int (1 : Int32)), .val (.int (3 : Int32)), .val (.int ds), .val (.int te), .val (.int pa), .val (.int pb), .val (.int qa), .val (.int qb), .val (.int qc), .val (.ref lk), .val (.ref sq), .val (.int (own_lt (own_c (own_set (0 : Int64) pa pb 0)) (2 : Int32))), .unset, .unset, .unset, .unset, .unset, .unset] []))
    refine own_by (fun t kk_ => XS.aload X16.here hx rfl (hb hby at_225) rfl rfl kk_) ?_
    show OwnG p e below s _ _ _ (T16.setTop (mkF m 227 #[.val (.int va), .val (.int vb), .val (.int vc), .val (.int vd), .val (.int ve), .val (.int (2 : Int32)), .val (.int (1 : Int32)), .val (.int (3 : Int32)), .val (.int ds), .val (.int te), .val (.int pa), .val (.int pb), .val (.int qa), .val (.int qb), .val (.int qc), .val (.ref lk), .val (.ref sq), .val (.int (own_lt (own_c (own_set (0 : Int64) pa pb 0)) (2 : Int32))), .unset, .unset, .unset, .unset, .unset, .unset] [(.ref sq)]))
    refine own_by (fun t kk_ => XS.iload X16.here hx rfl (hb hby at_227) rfl  kk_) ?_
    show OwnG p e below s _ _ _ (T16.setTop (mkF m 229 #[.val (.int va), .val (.int vb), .val (.int vc), .val (.int vd), .val (.int ve), .val (.int (2 : Int32)), .val (.int (1 : Int32)), .val (.int (3 : Int32)), .val (.int ds), .val (.int te), .val (.int pa), .val (.int pb), .val (.int qa), .val (.int qb), .val (.int qc), .val (.ref lk), .val (.ref sq), .val (.int (own_lt (own_c (own_set (0 : Int64) pa pb 0)) (2 : Int32))), .unset, .unset, .unset, .unset, .unset, .unset] [(.int (2 : Int32)), (.ref sq)]))
    refine own_by (fun t kk_ => XS.iload X16.here hx rfl (hb hby at_229) rfl  kk_) ?_
    show OwnG p e below s _ _ _ (T16.setTop (mkF m 231 #[.val (.int va), .val (.int vb), .val (.int vc), .val (.int vd), .val (.int ve), .val (.int (2 : Int32)), .val (.int (1 : Int32)), .val (.int (3 : Int32)), .val (.int ds), .val (.int te), .val (.int pa), .val (.int pb), .val (.int qa), .val (.int qb), .val (.int qc), .val (.ref lk), .val (.ref sq), .val (.int (own_lt (own_c (own_set (0 : Int64) pa pb 0)) (2 : Int32))), .unset, .unset, .unset, .unset, .unset, .unset] [(.int te), (.int (2 : Int32)), (.ref sq)]))
    obtain ⟨cq28, kq28, q28a, q28b, q28c⟩ := isOf hZ (rfl : T16.heap = T16.heap) f17
    obtain ⟨_, _, ⟨T28, L28, k28, n28⟩, -, X28, ⟨Lc28, hQ28, l28, y28, z28⟩, st28⟩ := X16.virtualBack hx (y := (⟨"com/example/score_on_crawl/scoreoncrawl/engine/BreadthFirstSequence", "added", "(IZ)V"⟩ : MethodName)) (z := (⟨"com/example/score_on_crawl/scoreoncrawl/engine/BreadthFirstSequence", "added", "(IZ)V"⟩ : MethodName)) hown (mvT hZ (hw _ (List.mem_of_getElem? (i := 57) rfl))) (mvT hZ (hw _ (List.mem_of_getElem? (i := 58) rfl))) (notFace_of_selects (args := #[]) (mvT hZ (hw _ (List.mem_of_getElem? (i := 60) rfl)))) (mvT hZ (hw _ (List.mem_of_getElem? (i := 60) rfl))) (mvT hZ (hw _ (List.mem_of_getElem? (i := 59) rfl))) (by decide) (backOf (W := 0) (rm9 l Z a0 hw [] sq fp bs wa (2 : Int32) (own_c (own_set (0 : Int64) pa pb 0)) u15 (2 : Int32) te (3 : Int32) (own_set (0 : Int64) pa pb 0) T16.heap n0 sz16 ⟨f17, f18, f19, f20, ⟨f21, f22, ⟨f23, f24, f25, f26, f27⟩⟩⟩ Nn (by decide)) hZ (hw _ (List.mem_of_getElem? (i := 61) rfl)) (hw _ (List.mem_of_getElem? (i := 4) rfl)) (by decide) (by decide)) q28a q28c (g := (mkF m 231 #[.val (.int va), .val (.int vb), .val (.int vc), .val (.int vd), .val (.int ve), .val (.int (2 : Int32)), .val (.int (1 : Int32)), .val (.int (3 : Int32)), .val (.int ds), .val (.int te), .val (.int pa), .val (.int pb), .val (.int qa), .val (.int qb), .val (.int qc), .val (.ref lk), .val (.ref sq), .val (.int (own_lt (own_c (own_set (0 : Int64) pa pb 0)) (2 : Int32))), .unset, .unset, .unset, .unset, .unset, .unset] [(.int te), (.int (2 : Int32)), (.ref sq)])) rfl (by rw [hml]; rfl) (Steps.refl _) (argsL := [(.int (2 : Int32)), (.int te)]) (rest := []) (lenOf pd_5 rfl) rfl (by show 2 * 0 + _ ≤ _; exact Nat.le_of_eq rfl) (hb hby at_231) (fun _ _ => ⟨rfl, (rfl : T16.heap = T16.heap), (by decide : 0 + 1 + 1 + 3 + 0 ≤ _), (by decide : 0 + 3 + 5 + 0 ≤ _)⟩)
    dsimp only [Pt.U, Pt.locs, Pt.cells, Pt.slots] at X28 l28 y28 z28 st28 hQ28
    subst l28 y28 z28
    refine own_by (fun t kk_ => st28.trans kk_) ?_
    obtain ⟨rfl, N28q, S28⟩ := hQ28
    have N28 := Fr.app N16 N28q
    have sz28 : n0 ≤ T28.heap.size := Nat.le_trans Nn.1 (Nat.le_of_lt (Exa.lt S28.1))
    show OwnG p e below s _ _ _ (T28.setTop (mkF m 234 #[.val (.int va), .val (.int vb), .val (.int vc), .val (.int vd), .val (.int ve), .val (.int (2 : Int32)), .val (.int (1 : Int32)), .val (.int (3 : Int32)), .val (.int ds), .val (.int te), .val (.int pa), .val (.int pb), .val (.int qa), .val (.int qb), .val (.int qc), .val (.ref lk), .val (.ref sq), .val (.int (own_lt (own_c (own_set (0 : Int64) pa pb 0)) (2 : Int32))), .unset, .unset, .unset, .unset, .unset, .unset] []))
    refine own_by (fun t kk_ => XS.aload X28.here hx rfl (hb hby at_234) rfl rfl kk_) ?_
    show OwnG p e below s _ _ _ (T28.setTop (mkF m 236 #[.val (.int va), .val (.int vb), .val (.int vc), .val (.int vd), .val (.int ve), .val (.int (2 : Int32)), .val (.int (1 : Int32)), .val (.int (3 : Int32)), .val (.int ds), .val (.int te), .val (.int pa), .val (.int pb), .val (.int qa), .val (.int qb), .val (.int qc), .val (.ref lk), .val (.ref sq), .val (.int (own_lt (own_c (own_set (0 : Int64) pa pb 0)) (2 : Int32))), .unset, .unset, .unset, .unset, .unset, .unset] [(.ref sq)]))
    refine own_by (fun t kk_ => XS.iload X28.here hx rfl (hb hby at_236) rfl  kk_) ?_
    show OwnG p e below s _ _ _ (T28.setTop (mkF m 238 #[.val (.int va), .val (.int vb), .val (.int vc), .val (.int vd), .val (.int ve), .val (.int (2 : Int32)), .val (.int (1 : Int32)), .val (.int (3 : Int32)), .val (.int ds), .val (.int te), .val (.int pa), .val (.int pb), .val (.int qa), .val (.int qb), .val (.int qc), .val (.ref lk), .val (.ref sq), .val (.int (own_lt (own_c (own_set (0 : Int64) pa pb 0)) (2 : Int32))), .unset, .unset, .unset, .unset, .unset, .unset] [(.int qa), (.ref sq)]))
    refine own_by (fun t kk_ => XS.iload X28.here hx rfl (hb hby at_238) rfl  kk_) ?_
    show OwnG p e below s _ _ _ (T28.setTop (mkF m 240 #[.val (.int va), .val (.int vb), .val (.int vc), .val (.int vd), .val (.int ve), .val (.int (2 : Int32)), .val (.int (1 : Int32)), .val (.int (3 : Int32)), .val (.int ds), .val (.int te), .val (.int pa), .val (.int pb), .val (.int qa), .val (.int qb), .val (.int qc), .val (.ref lk), .val (.ref sq), .val (.int (own_lt (own_c (own_set (0 : Int64) pa pb 0)) (2 : Int32))), .unset, .unset, .unset, .unset, .unset, .unset] [(.int qb), (.int qa), (.ref sq)]))
    refine own_by (fun t kk_ => XS.iload X28.here hx rfl (hb hby at_240) rfl  kk_) ?_
    show OwnG p e below s _ _ _ (T28.setTop (mkF m 242 #[.val (.int va), .val (.int vb), .val (.int vc), .val (.int vd), .val (.int ve), .val (.int (2 : Int32)), .val (.int (1 : Int32)), .val (.int (3 : Int32)), .val (.int ds), .val (.int te), .val (.int pa), .val (.int pb), .val (.int qa), .val (.int qb), .val (.int qc), .val (.ref lk), .val (.ref sq), .val (.int (own_lt (own_c (own_set (0 : Int64) pa pb 0)) (2 : Int32))), .unset, .unset, .unset, .unset, .unset, .unset] [(.int qc), (.int qb), (.int qa), (.ref sq)]))
    refine own_by (fun t kk_ => XS.iload X28.here hx rfl (hb hby at_242) rfl  kk_) ?_
    show OwnG p e below s _ _ _ (T28.setTop (mkF m 244 #[.val (.int va), .val (.int vb), .val (.int vc), .val (.int vd), .val (.int ve), .val (.int (2 : Int32)), .val (.int (1 : Int32)), .val (.int (3 : Int32)), .val (.int ds), .val (.int te), .val (.int pa), .val (.int pb), .val (.int qa), .val (.int qb), .val (.int qc), .val (.ref lk), .val (.ref sq), .val (.int (own_lt (own_c (own_set (0 : Int64) pa pb 0)) (2 : Int32))), .unset, .unset, .unset, .unset, .unset, .unset] [(.int ds), (.int qc), (.int qb), (.int qa), (.ref sq)]))
    refine own_by (fun t kk_ => XS.aload X28.here hx rfl (hb hby at_244) rfl rfl kk_) ?_
    show OwnG p e below s _ _ _ (T28.setTop (mkF m 246 #[.val (.int va), .val (.int vb), .val (.int vc), .val (.int vd), .val (.int ve), .val (.int (2 : Int32)), .val (.int (1 : Int32)), .val (.int (3 : Int32)), .val (.int ds), .val (.int te), .val (.int pa), .val (.int pb), .val (.int qa), .val (.int qb), .val (.int qc), .val (.ref lk), .val (.ref sq), .val (.int (own_lt (own_c (own_set (0 : Int64) pa pb 0)) (2 : Int32))), .unset, .unset, .unset, .unset, .unset, .unset] [(.ref lk), (.int ds), (.int qc), (.int qb), (.int qa), (.ref sq)]))
    obtain ⟨_, _, ⟨T29, L29, k29, n29⟩, -, X29, ⟨Lc29, hQ29, l29, y29, z29⟩, st29⟩ := Jvm.LawKit.callS X28 hx (y := (⟨"com/example/score_on_crawl/scoreoncrawl/engine/BreadthFirstSequenceHasNextPinLaw", "fetchThree", "(Lcom/example/score_on_crawl/scoreoncrawl/engine/BreadthFirstSequence;ZZZZ[I)V"⟩ : MethodName)) hown (mvT hZ (hw _ (List.mem_of_getElem? (i := 62) rfl))) (mvT hZ (hw _ (List.mem_of_getElem? (i := 63) rfl))) (mvT hZ (hw _ (List.mem_of_getElem? (i := 46) rfl))) (mvT hZ (hw _ (List.mem_of_getElem? (i := 64) rfl))) (by decide) (backOf (W := 0) (rm10 l Z a0 hw [] sq fp bs wa lk (3 : Int32) (own_c (own_set (0 : Int64) pa pb 0)) u15 qa qb qc ds (own_set (0 : Int64) pa pb 0) T28.heap n0 sz28 ⟨S28.1, S28.2.1, S28.2.2.1, S28.2.2.2.1, ⟨S28.2.2.2.2.1, S28.2.2.2.2.2.1, ⟨S28.2.2.2.2.2.2.1, S28.2.2.2.2.2.2.2.1, S28.2.2.2.2.2.2.2.2.1, S28.2.2.2.2.2.2.2.2.2.1, S28.2.2.2.2.2.2.2.2.2.2⟩⟩⟩ Nn hu15 hm15 rfl) hZ (hw _ (List.mem_of_getElem? (i := 64) rfl)) (hw _ (List.mem_of_getElem? (i := 46) rfl)) (by decide) (by decide)) (g := (mkF m 246 #[.val (.int va), .val (.int vb), .val (.int vc), .val (.int vd), .val (.int ve), .val (.int (2 : Int32)), .val (.int (1 : Int32)), .val (.int (3 : Int32)), .val (.int ds), .val (.int te), .val (.int pa), .val (.int pb), .val (.int qa), .val (.int qb), .val (.int qc), .val (.ref lk), .val (.ref sq), .val (.int (own_lt (own_c (own_set (0 : Int64) pa pb 0)) (2 : Int32))), .unset, .unset, .unset, .unset, .unset, .unset] [(.ref lk), (.int ds), (.int qc), (.int qb), (.int qa), (.ref sq)])) rfl (by rw [hml]; rfl) (argsL := [(.ref sq), (.int qa), (.int qb), (.int qc), (.int ds), (.ref lk)]) (rest := []) (lenOf pd_8 rfl) rfl (by show 2 * 0 + _ ≤ _; exact Nat.le_of_eq rfl) (hb hby at_246) (fun _ _ => ⟨rfl, (rfl : T28.heap = T28.heap), (by decide : 0 + 1 + 1 + 3 + 0 ≤ _), (by decide : 0 + 3 + 5 + 0 ≤ _)⟩)
    dsimp only [Pt.U, Pt.locs, Pt.cells, Pt.slots] at X29 l29 y29 z29 st29 hQ29
    subst l29 y29 z29
    refine own_by (fun t kk_ => st29 _ kk_) ?_
    obtain ⟨rfl, N29q, u29, hm29, hu29, S29⟩ := hQ29
    have N29 := Fr.app N28 N29q
    have sz29 : n0 ≤ T29.heap.size := Nat.le_trans Nn.1 (Nat.le_of_lt (Exa.lt S29.1))
    show OwnG p e below s _ _ _ (T29.setTop (mkF m 249 #[.val (.int va), .val (.int vb), .val (.int vc), .val (.int vd), .val (.int ve), .val (.int (2 : Int32)), .val (.int (1 : Int32)), .val (.int (3 : Int32)), .val (.int ds), .val (.int te), .val (.int pa), .val (.int pb), .val (.int qa), .val (.int qb), .val (.int qc), .val (.ref lk), .val (.ref sq), .val (.int (own_lt (own_c (own_set (0 : Int64) pa pb 0)) (2 : Int32))), .unset, .unset, .unset, .unset, .unset, .unset] []))
    refine own_by (fun t kk_ => XS.aload X29.here hx rfl (hb hby at_249) rfl rfl kk_) ?_
    show OwnG p e below s _ _ _ (T29.setTop (mkF m 251 #[.val (.int va), .val (.int vb), .val (.int vc), .val (.int vd), .val (.int ve), .val (.int (2 : Int32)), .val (.int (1 : Int32)), .val (.int (3 : Int32)), .val (.int ds), .val (.int te), .val (.int pa), .val (.int pb), .val (.int qa), .val (.int qb), .val (.int qc), .val (.ref lk), .val (.ref sq), .val (.int (own_lt (own_c (own_set (0 : Int64) pa pb 0)) (2 : Int32))), .unset, .unset, .unset, .unset, .unset, .unset] [(.ref sq)]))
    obtain ⟨cq30, kq30, q30a, q30b, q30c⟩ := isOf hZ (rfl : T29.heap = T29.heap) S29.1
    obtain ⟨_, _, ⟨T30, L30, k30, n30⟩, -, X30, ⟨Lc30, hQ30, l30, y30, z30⟩, st30⟩ := X29.virtualBack hx (y := (⟨"com/example/score_on_crawl/scoreoncrawl/engine/BreadthFirstSequence", "hasNext", "()Z"⟩ : MethodName)) (z := (⟨"com/example/score_on_crawl/scoreoncrawl/engine/BreadthFirstSequence", "hasNext", "()Z"⟩ : MethodName)) hown (mvT hZ (hw _ (List.mem_of_getElem? (i := 48) rfl))) (mvT hZ (hw _ (List.mem_of_getElem? (i := 49) rfl))) (notFace_of_selects (args := #[]) (mvT hZ (hw _ (List.mem_of_getElem? (i := 51) rfl)))) (mvT hZ (hw _ (List.mem_of_getElem? (i := 51) rfl))) (mvT hZ (hw _ (List.mem_of_getElem? (i := 50) rfl))) (by decide) (backOf (W := 0) (rm8 l Z a0 hw [] sq fp bs wa (3 : Int32) (own_c (own_set (own_set (0 : Int64) pa pb 0) qa qb qc)) u29 (own_set (own_set (0 : Int64) pa pb 0) qa qb qc) T29.heap n0 sz29 ⟨S29.1, S29.2.1, S29.2.2.1, S29.2.2.2.1, ⟨S29.2.2.2.2.1, S29.2.2.2.2.2.1, ⟨S29.2.2.2.2.2.2.1, S29.2.2.2.2.2.2.2.1, S29.2.2.2.2.2.2.2.2.1, S29.2.2.2.2.2.2.2.2.2.1, S29.2.2.2.2.2.2.2.2.2.2⟩⟩⟩) hZ (hw _ (List.mem_of_getElem? (i := 52) rfl)) (hw _ (List.mem_of_getElem? (i := 4) rfl)) (by decide) (by decide)) q30a q30c (g := (mkF m 251 #[.val (.int va), .val (.int vb), .val (.int vc), .val (.int vd), .val (.int ve), .val (.int (2 : Int32)), .val (.int (1 : Int32)), .val (.int (3 : Int32)), .val (.int ds), .val (.int te), .val (.int pa), .val (.int pb), .val (.int qa), .val (.int qb), .val (.int qc), .val (.ref lk), .val (.ref sq), .val (.int (own_lt (own_c (own_set (0 : Int64) pa pb 0)) (2 : Int32))), .unset, .unset, .unset, .unset, .unset, .unset] [(.ref sq)])) rfl (by rw [hml]; rfl) (Steps.refl _) (argsL := []) (rest := []) (lenOf pd_7 rfl) rfl (by show 2 * 0 + _ ≤ _; exact Nat.le_of_eq rfl) (hb hby at_251) (fun _ _ => ⟨rfl, (rfl : T29.heap = T29.heap), (by decide : 0 + 1 + 1 + 3 + 0 ≤ _), (by decide : 0 + 3 + 5 + 0 ≤ _)⟩)
    dsimp only [Pt.U, Pt.locs, Pt.cells, Pt.slots] at X30 l30 y30 z30 st30 hQ30
    subst l30 y30 z30
    refine own_by (fun t kk_ => st30.trans kk_) ?_
    obtain ⟨rfl, N30q, hh30⟩ := hQ30
    have N30 := Fr.app N29 N30q
    have f31 := S29.1
    rw [← hh30] at f31
    have f32 := S29.2.1
    rw [← hh30] at f32
    have f33 := S29.2.2.1
    rw [← hh30] at f33
    have f34 := S29.2.2.2.1
    rw [← hh30] at f34
    have f35 := S29.2.2.2.2.1
    rw [← hh30] at f35
    have f36 := S29.2.2.2.2.2.1
    rw [← hh30] at f36
    have f37 := S29.2.2.2.2.2.2.1
    rw [← hh30] at f37
    have f38 := S29.2.2.2.2.2.2.2.1
    rw [← hh30] at f38
    have f39 := S29.2.2.2.2.2.2.2.2.1
    rw [← hh30] at f39
    have f40 := S29.2.2.2.2.2.2.2.2.2.1
    rw [← hh30] at f40
    have f41 := S29.2.2.2.2.2.2.2.2.2.2
    rw [← hh30] at f41
    have sz30 : n0 ≤ T30.heap.size := by rw [hh30]; exact sz29
    show OwnG p e below s _ _ _ (T30.setTop (mkF m 254 #[.val (.int va), .val (.int vb), .val (.int vc), .val (.int vd), .val (.int ve), .val (.int (2 : Int32)), .val (.int (1 : Int32)), .val (.int (3 : Int32)), .val (.int ds), .val (.int te), .val (.int pa), .val (.int pb), .val (.int qa), .val (.int qb), .val (.int qc), .val (.ref lk), .val (.ref sq), .val (.int (own_lt (own_c (own_set (0 : Int64) pa pb 0)) (2 : Int32))), .unset, .unset, .unset, .unset, .unset, .unset] [(.int (own_lt (own_c (own_set (own_set (0 : Int64) pa pb 0) qa qb qc)) (3 : Int32)))]))
    refine own_by (fun t kk_ => XS.istore X30.here hx rfl (hb hby at_254) rfl (l' := #[.val (.int va), .val (.int vb), .val (.int vc), .val (.int vd), .val (.int ve), .val (.int (2 : Int32)), .val (.int (1 : Int32)), .val (.int (3 : Int32)), .val (.int ds), .val (.int te), .val (.int pa), .val (.int pb), .val (.int qa), .val (.int qb), .val (.int qc), .val (.ref lk), .val (.ref sq), .val (.int (own_lt (own_c (own_set (0 : Int64) pa pb 0)) (2 : Int32))), .val (.int (own_lt (own_c (own_set (own_set (0 : Int64) pa pb 0) qa qb qc)) (3 : Int32))), .unset, .unset, .unset, .unset, .unset]) rfl kk_) ?_
    show OwnG p e below s _ _ _ (T30.setTop (mkF m 256 #[.val (.int va), .val (.int vb), .val (.int vc), .val (.int vd), .val (.int ve), .val (.int (2 : Int32)), .val (.int (1 : Int32)), .val (.int (3 : Int32)), .val (.int ds), .val (.int te), .val (.int pa), .val (.int pb), .val (.int qa), .val (.int qb), .val (.int qc), .val (.ref lk), .val (.ref sq), .val (.int (own_lt (own_c (own_set (0 : Int64) pa pb 0)) (2 : Int32))), .val (.int (own_lt (own_c (own_set (own_set (0 : Int64) pa pb 0) qa qb qc)) (3 : Int32))), .unset, .unset, .unset, .unset, .unset] []))
    exact own_t256 va vb vc vd ve (2 : Int32) (1 : Int32) (3 : Int32) ds te pa pb qa qb qc _ _ lk sq X30 hx hby hml hret hlk hown hnm hZ hw (rfl : T30.heap = T30.heap) N30 sz30 (own_h1 (Or.inr (Or.inr (rfl))) za zb) (own_h2 (Or.inr (Or.inr (Or.inr (rfl)))) za zb zc zd ze)
  · refine own_by (fun t kk_ => XS.ifYes X12.here hx rfl (pc0 := 189) (pc' := 196) rfl (hb hby at_189) rfl ((if0 _ _).trans (feq hb189_13).2) (by decide) (by decide) kk_) ?_
    show OwnG p e below s _ _ _ (T12.setTop (mkF m 196 #[.val (.int va), .val (.int vb), .val (.int vc), .val (.int vd), .val (.int ve), .val (.int (2 : Int32)), .val (.int (1 : Int32)), .val (.int (3 : Int32)), .val (.int ds), .val (.int te), .val (.int pa), .val (.int pb), .val (.int qa), .val (.int qb), .val (.int qc), .val (.ref lk), .val (.ref sq), .unset, .unset, .unset, .unset, .unset, .unset, .unset] [(.int (1 : Int32)), (.ref sq)]))
    refine own_by (fun t kk_ => XS.iconst X12.here hx rfl (hb hby at_196) kk_) ?_
    show OwnG p e below s _ _ _ (T12.setTop (mkF m 197 #[.val (.int va), .val (.int vb), .val (.int vc), .val (.int vd), .val (.int ve), .val (.int (2 : Int32)), .val (.int (1 : Int32)), .val (.int (3 : Int32)), .val (.int ds), .val (.int te), .val (.int pa), .val (.int pb), .val (.int qa), .val (.int qb), .val (.int qc), .val (.ref lk), .val (.ref sq), .unset, .unset, .unset, .unset, .unset, .unset, .unset] [(.int (0 : Int32)), (.int (1 : Int32)), (.ref sq)]))
    obtain ⟨cq42, kq42, q42a, q42b, q42c⟩ := isOf hZ (rfl : T12.heap = T12.heap) S12.1
    obtain ⟨_, _, ⟨T42, L42, k42, n42⟩, -, X42, ⟨Lc42, hQ42, l42, y42, z42⟩, st42⟩ := X12.virtualBack hx (y := (⟨"com/example/score_on_crawl/scoreoncrawl/engine/BreadthFirstSequence", "added", "(IZ)V"⟩ : MethodName)) (z := (⟨"com/example/score_on_crawl/scoreoncrawl/engine/BreadthFirstSequence", "added", "(IZ)V"⟩ : MethodName)) hown (mvT hZ (hw _ (List.mem_of_getElem? (i := 57) rfl))) (mvT hZ (hw _ (List.mem_of_getElem? (i := 58) rfl))) (notFace_of_selects (args := #[]) (mvT hZ (hw _ (List.mem_of_getElem? (i := 60) rfl)))) (mvT hZ (hw _ (List.mem_of_getElem? (i := 60) rfl))) (mvT hZ (hw _ (List.mem_of_getElem? (i := 59) rfl))) (by decide) (backOf (W := 0) (rm9 l Z a0 hw [] sq fp bs wa (1 : Int32) (0 : Int32) (0 : Int32) (1 : Int32) (0 : Int32) (2 : Int32) (0 : Int64) T12.heap n0 sz12 ⟨S12.1, S12.2.1, S12.2.2.1, S12.2.2.2.1, ⟨S12.2.2.2.2.1, S12.2.2.2.2.2.1, ⟨S12.2.2.2.2.2.2.1, S12.2.2.2.2.2.2.2.1, S12.2.2.2.2.2.2.2.2.1, S12.2.2.2.2.2.2.2.2.2.1, S12.2.2.2.2.2.2.2.2.2.2⟩⟩⟩ Nn (by decide)) hZ (hw _ (List.mem_of_getElem? (i := 61) rfl)) (hw _ (List.mem_of_getElem? (i := 4) rfl)) (by decide) (by decide)) q42a q42c (g := (mkF m 197 #[.val (.int va), .val (.int vb), .val (.int vc), .val (.int vd), .val (.int ve), .val (.int (2 : Int32)), .val (.int (1 : Int32)), .val (.int (3 : Int32)), .val (.int ds), .val (.int te), .val (.int pa), .val (.int pb), .val (.int qa), .val (.int qb), .val (.int qc), .val (.ref lk), .val (.ref sq), .unset, .unset, .unset, .unset, .unset, .unset, .unset] [(.int (0 : Int32)), (.int (1 : Int32)), (.ref sq)])) rfl (by rw [hml]; rfl) (Steps.refl _) (argsL := [(.int (1 : Int32)), (.int (0 : Int32))]) (rest := []) (lenOf pd_5 rfl) rfl (by show 2 * 0 + _ ≤ _; exact Nat.le_of_eq rfl) (hb hby at_197) (fun _ _ => ⟨rfl, (rfl : T12.heap = T12.heap), (by decide : 0 + 1 + 1 + 3 + 0 ≤ _), (by decide : 0 + 3 + 5 + 0 ≤ _)⟩)
    dsimp only [Pt.U, Pt.locs, Pt.cells, Pt.slots] at X42 l42 y42 z42 st42 hQ42
    subst l42 y42 z42
    refine own_by (fun t kk_ => st42.trans kk_) ?_
    obtain ⟨rfl, N42q, S42⟩ := hQ42
    have N42 := Fr.app N12 N42q
    have sz42 : n0 ≤ T42.heap.size := Nat.le_trans Nn.1 (Nat.le_of_lt (Exa.lt S42.1))
    show OwnG p e below s _ _ _ (T42.setTop (mkF m 200 #[.val (.int va), .val (.int vb), .val (.int vc), .val (.int vd), .val (.int ve), .val (.int (2 : Int32)), .val (.int (1 : Int32)), .val (.int (3 : Int32)), .val (.int ds), .val (.int te), .val (.int pa), .val (.int pb), .val (.int qa), .val (.int qb), .val (.int qc), .val (.ref lk), .val (.ref sq), .unset, .unset, .unset, .unset, .unset, .unset, .unset] []))
    refine own_by (fun t kk_ => XS.aload X42.here hx rfl (hb hby at_200) rfl rfl kk_) ?_
    show OwnG p e below s _ _ _ (T42.setTop (mkF m 202 #[.val (.int va), .val (.int vb), .val (.int vc), .val (.int vd), .val (.int ve), .val (.int (2 : Int32)), .val (.int (1 : Int32)), .val (.int (3 : Int32)), .val (.int ds), .val (.int te), .val (.int pa), .val (.int pb), .val (.int qa), .val (.int qb), .val (.int qc), .val (.ref lk), .val (.ref sq), .unset, .unset, .unset, .unset, .unset, .unset, .unset] [(.ref sq)]))
    refine own_by (fun t kk_ => XS.iload X42.here hx rfl (hb hby at_202) rfl  kk_) ?_
    show OwnG p e below s _ _ _ (T42.setTop (mkF m 204 #[.val (.int va), .val (.int vb), .val (.int vc), .val (.int vd), .val (.int ve), .val (.int (2 : Int32)), .val (.int (1 : Int32)), .val (.int (3 : Int32)), .val (.int ds), .val (.int te), .val (.int pa), .val (.int pb), .val (.int qa), .val (.int qb), .val (.int qc), .val (.ref lk), .val (.ref sq), .unset, .unset, .unset, .unset, .unset, .unset, .unset] [(.int pa), (.ref sq)]))
    refine own_by (fun t kk_ => XS.iload X42.here hx rfl (hb hby at_204) rfl  kk_) ?_
    show OwnG p e below s _ _ _ (T42.setTop (mkF m 206 #[.val (.int va), .val (.int vb), .val (.int vc), .val (.int vd), .val (.int ve), .val (.int (2 : Int32)), .val (.int (1 : Int32)), .val (.int (3 : Int32)), .val (.int ds), .val (.int te), .val (.int pa), .val (.int pb), .val (.int qa), .val (.int qb), .val (.int qc), .val (.ref lk), .val (.ref sq), .unset, .unset, .unset, .unset, .unset, .unset, .unset] [(.int pb), (.int pa), (.ref sq)]))
    refine own_by (fun t kk_ => XS.iload X42.here hx rfl (hb hby at_206) rfl  kk_) ?_
    show OwnG p e below s _ _ _ (T42.setTop (mkF m 208 #[.val (.int va), .val (.int vb), .val (.int vc), .val (.int vd), .val (.int ve), .val (.int (2 : Int32)), .val (.int (1 : Int32)), .val (.int (3 : Int32)), .val (.int ds), .val (.int te), .val (.int pa), .val (.int pb), .val (.int qa), .val (.int qb), .val (.int qc), .val (.ref lk), .val (.ref sq), .unset, .unset, .unset, .unset, .unset, .unset, .unset] [(.int ds), (.int pb), (.int pa), (.ref sq)]))
    refine own_by (fun t kk_ => XS.aload X42.here hx rfl (hb hby at_208) rfl rfl kk_) ?_
    show OwnG p e below s _ _ _ (T42.setTop (mkF m 210 #[.val (.int va), .val (.int vb), .val (.int vc), .val (.int vd), .val (.int ve), .val (.int (2 : Int32)), .val (.int (1 : Int32)), .val (.int (3 : Int32)), .val (.int ds), .val (.int te), .val (.int pa), .val (.int pb), .val (.int qa), .val (.int qb), .val (.int qc), .val (.ref lk), .val (.ref sq), .unset, .unset, .unset, .unset, .unset, .unset, .unset] [(.ref lk), (.int ds), (.int pb), (.int pa), (.ref sq)]))
    obtain ⟨_, _, ⟨T43, L43, k43, n43⟩, -, X43, ⟨Lc43, hQ43, l43, y43, z43⟩, st43⟩ := Jvm.LawKit.callS X42 hx (y := (⟨"com/example/score_on_crawl/scoreoncrawl/engine/BreadthFirstSequenceHasNextPinLaw", "fetchTwo", "(Lcom/example/score_on_crawl/scoreoncrawl/engine/BreadthFirstSequence;ZZZ[I)V"⟩ : MethodName)) hown (mvT hZ (hw _ (List.mem_of_getElem? (i := 44) rfl))) (mvT hZ (hw _ (List.mem_of_getElem? (i := 45) rfl))) (mvT hZ (hw _ (List.mem_of_getElem? (i := 46) rfl))) (mvT hZ (hw _ (List.mem_of_getElem? (i := 47) rfl))) (by decide) (backOf (W := 0) (rm7 l Z a0 hw [] sq fp bs wa lk (2 : Int32) (0 : Int32) (0 : Int32) pa pb ds (0 : Int64) T42.heap n0 sz42 ⟨S42.1, S42.2.1, S42.2.2.1, S42.2.2.2.1, ⟨S42.2.2.2.2.1, S42.2.2.2.2.2.1, ⟨S42.2.2.2.2.2.2.1, S42.2.2.2.2.2.2.2.1, S42.2.2.2.2.2.2.2.2.1, S42.2.2.2.2.2.2.2.2.2.1, S42.2.2.2.2.2.2.2.2.2.2⟩⟩⟩ Nn (Or.inl rfl) (Or.inl rfl) rfl) hZ (hw _ (List.mem_of_getElem? (i := 47) rfl)) (hw _ (List.mem_of_getElem? (i := 46) rfl)) (by decide) (by decide)) (g := (mkF m 210 #[.val (.int va), .val (.int vb), .val (.int vc), .val (.int vd), .val (.int ve), .val (.int (2 : Int32)), .val (.int (1 : Int32)), .val (.int (3 : Int32)), .val (.int ds), .val (.int te), .val (.int pa), .val (.int pb), .val (.int qa), .val (.int qb), .val (.int qc), .val (.ref lk), .val (.ref sq), .unset, .unset, .unset, .unset, .unset, .unset, .unset] [(.ref lk), (.int ds), (.int pb), (.int pa), (.ref sq)])) rfl (by rw [hml]; rfl) (argsL := [(.ref sq), (.int pa), (.int pb), (.int ds), (.ref lk)]) (rest := []) (lenOf pd_6 rfl) rfl (by show 2 * 0 + _ ≤ _; exact Nat.le_of_eq rfl) (hb hby at_210) (fun _ _ => ⟨rfl, (rfl : T42.heap = T42.heap), (by decide : 0 + 1 + 1 + 3 + 0 ≤ _), (by decide : 0 + 3 + 5 + 0 ≤ _)⟩)
    dsimp only [Pt.U, Pt.locs, Pt.cells, Pt.slots] at X43 l43 y43 z43 st43 hQ43
    subst l43 y43 z43
    refine own_by (fun t kk_ => st43 _ kk_) ?_
    obtain ⟨rfl, N43q, u43, hm43, hu43, S43⟩ := hQ43
    have N43 := Fr.app N42 N43q
    have sz43 : n0 ≤ T43.heap.size := Nat.le_trans Nn.1 (Nat.le_of_lt (Exa.lt S43.1))
    show OwnG p e below s _ _ _ (T43.setTop (mkF m 213 #[.val (.int va), .val (.int vb), .val (.int vc), .val (.int vd), .val (.int ve), .val (.int (2 : Int32)), .val (.int (1 : Int32)), .val (.int (3 : Int32)), .val (.int ds), .val (.int te), .val (.int pa), .val (.int pb), .val (.int qa), .val (.int qb), .val (.int qc), .val (.ref lk), .val (.ref sq), .unset, .unset, .unset, .unset, .unset, .unset, .unset] []))
    refine own_by (fun t kk_ => XS.aload X43.here hx rfl (hb hby at_213) rfl rfl kk_) ?_
    show OwnG p e below s _ _ _ (T43.setTop (mkF m 215 #[.val (.int va), .val (.int vb), .val (.int vc), .val (.int vd), .val (.int ve), .val (.int (2 : Int32)), .val (.int (1 : Int32)), .val (.int (3 : Int32)), .val (.int ds), .val (.int te), .val (.int pa), .val (.int pb), .val (.int qa), .val (.int qb), .val (.int qc), .val (.ref lk), .val (.ref sq), .unset, .unset, .unset, .unset, .unset, .unset, .unset] [(.ref sq)]))
    obtain ⟨cq44, kq44, q44a, q44b, q44c⟩ := isOf hZ (rfl : T43.heap = T43.heap) S43.1
    obtain ⟨_, _, ⟨T44, L44, k44, n44⟩, -, X44, ⟨Lc44, hQ44, l44, y44, z44⟩, st44⟩ := X43.virtualBack hx (y := (⟨"com/example/score_on_crawl/scoreoncrawl/engine/BreadthFirstSequence", "hasNext", "()Z"⟩ : MethodName)) (z := (⟨"com/example/score_on_crawl/scoreoncrawl/engine/BreadthFirstSequence", "hasNext", "()Z"⟩ : MethodName)) hown (mvT hZ (hw _ (List.mem_of_getElem? (i := 48) rfl))) (mvT hZ (hw _ (List.mem_of_getElem? (i := 49) rfl))) (notFace_of_selects (args := #[]) (mvT hZ (hw _ (List.mem_of_getElem? (i := 51) rfl)))) (mvT hZ (hw _ (List.mem_of_getElem? (i := 51) rfl))) (mvT hZ (hw _ (List.mem_of_getElem? (i := 50) rfl))) (by decide) (backOf (W := 0) (rm8 l Z a0 hw [] sq fp bs wa (2 : Int32) (own_c (own_set (0 : Int64) pa pb 0)) u43 (own_set (0 : Int64) pa pb 0) T43.heap n0 sz43 ⟨S43.1, S43.2.1, S43.2.2.1, S43.2.2.2.1, ⟨S43.2.2.2.2.1, S43.2.2.2.2.2.1, ⟨S43.2.2.2.2.2.2.1, S43.2.2.2.2.2.2.2.1, S43.2.2.2.2.2.2.2.2.1, S43.2.2.2.2.2.2.2.2.2.1, S43.2.2.2.2.2.2.2.2.2.2⟩⟩⟩) hZ (hw _ (List.mem_of_getElem? (i := 52) rfl)) (hw _ (List.mem_of_getElem? (i := 4) rfl)) (by decide) (by decide)) q44a q44c (g := (mkF m 215 #[.val (.int va), .val (.int vb), .val (.int vc), .val (.int vd), .val (.int ve), .val (.int (2 : Int32)), .val (.int (1 : Int32)), .val (.int (3 : Int32)), .val (.int ds), .val (.int te), .val (.int pa), .val (.int pb), .val (.int qa), .val (.int qb), .val (.int qc), .val (.ref lk), .val (.ref sq), .unset, .unset, .unset, .unset, .unset, .unset, .unset] [(.ref sq)])) rfl (by rw [hml]; rfl) (Steps.refl _) (argsL := []) (rest := []) (lenOf pd_7 rfl) rfl (by show 2 * 0 + _ ≤ _; exact Nat.le_of_eq rfl) (hb hby at_215) (fun _ _ => ⟨rfl, (rfl : T43.heap = T43.heap), (by decide : 0 + 1 + 1 + 3 + 0 ≤ _), (by decide : 0 + 3 + 5 + 0 ≤ _)⟩)
    dsimp only [Pt.U, Pt.locs, Pt.cells, Pt.slots] at X44 l44 y44 z44 st44 hQ44
    subst l44 y44 z44
    refine own_by (fun t kk_ => st44.trans kk_) ?_
    obtain ⟨rfl, N44q, hh44⟩ := hQ44
    have N44 := Fr.app N43 N44q
    have f45 := S43.1
    rw [← hh44] at f45
    have f46 := S43.2.1
    rw [← hh44] at f46
    have f47 := S43.2.2.1
    rw [← hh44] at f47
    have f48 := S43.2.2.2.1
    rw [← hh44] at f48
    have f49 := S43.2.2.2.2.1
    rw [← hh44] at f49
    have f50 := S43.2.2.2.2.2.1
    rw [← hh44] at f50
    have f51 := S43.2.2.2.2.2.2.1
    rw [← hh44] at f51
    have f52 := S43.2.2.2.2.2.2.2.1
    rw [← hh44] at f52
    have f53 := S43.2.2.2.2.2.2.2.2.1
    rw [← hh44] at f53
    have f54 := S43.2.2.2.2.2.2.2.2.2.1
    rw [← hh44] at f54
    have f55 := S43.2.2.2.2.2.2.2.2.2.2
    rw [← hh44] at f55
    have sz44 : n0 ≤ T44.heap.size := by rw [hh44]; exact sz43
    show OwnG p e below s _ _ _ (T44.setTop (mkF m 218 #[.val (.int va), .val (.int vb), .val (.int vc), .val (.int vd), .val (.int ve), .val (.int (2 : Int32)), .val (.int (1 : Int32)), .val (.int (3 : Int32)), .val (.int ds), .val (.int te), .val (.int pa), .val (.int pb), .val (.int qa), .val (.int qb), .val (.int qc), .val (.ref lk), .val (.ref sq), .unset, .unset, .unset, .unset, .unset, .unset, .unset] [(.int (own_lt (own_c (own_set (0 : Int64) pa pb 0)) (2 : Int32)))]))
    refine own_by (fun t kk_ => XS.istore X44.here hx rfl (hb hby at_218) rfl (l' := #[.val (.int va), .val (.int vb), .val (.int vc), .val (.int vd), .val (.int ve), .val (.int (2 : Int32)), .val (.int (1 : Int32)), .val (.int (3 : Int32)), .val (.int ds), .val (.int te), .val (.int pa), .val (.int pb), .val (.int qa), .val (.int qb), .val (.int qc), .val (.ref lk), .val (.ref sq), .val (.int (own_lt (own_c (own_set (0 : Int64) pa pb 0)) (2 : Int32))), .unset, .unset, .unset, .unset, .unset, .unset]) rfl kk_) ?_
    show OwnG p e below s _ _ _ (T44.setTop (mkF m 220 #[.val (.int va), .val (.int vb), .val (.int vc), .val (.int vd), .val (.int ve), .val (.int (2 : Int32)), .val (.int (1 : Int32)), .val (.int (3 : Int32)), .val (.int ds), .val (.int te), .val (.int pa), .val (.int pb), .val (.int qa), .val (.int qb), .val (.int qc), .val (.ref lk), .val (.ref sq), .val (.int (own_lt (own_c (own_set (0 : Int64) pa pb 0)) (2 : Int32))), .unset, .unset, .unset, .unset, .unset, .unset] []))
    refine own_by (fun t kk_ => XS.iload X44.here hx rfl (hb hby at_220) rfl  kk_) ?_
    show OwnG p e below s _ _ _ (T44.setTop (mkF m 222 #[.val (.int va), .val (.int vb), .val (.int vc), .val (.int vd), .val (.int ve), .val (.int (2 : Int32)), .val (.int (1 : Int32)), .val (.int (3 : Int32)), .val (.int ds), .val (.int te), .val (.int pa), .val (.int pb), .val (.int qa), .val (.int qb), .val (.int qc), .val (.ref lk), .val (.ref sq), .val (.int (own_lt (own_c (own_set (0 : Int64) pa pb 0)) (2 : Int32))), .unset, .unset, .unset, .unset, .unset, .unset] [(.int (1 : Int32))]))
    refine own_by (fun t kk_ => XS.ifNo X44.here hx rfl (hb hby at_222) rfl ((if0 _ _).trans (tlt (by decide)).2.2.2) kk_) ?_
    show OwnG p e below s _ _ _ (T44.setTop (mkF m 225 #[.val (.int va), .val (.int vb), .val (.int vc), .val (.int vd), .val (.int ve), .val (.int (2 : Int32)), .val (.int (1 : Int32)), .val (.int (3 : Int32)), .val (.int ds), .val (.int te), .val (.int pa), .val (.int pb), .val (.int qa), .val (.int qb), .val (.int qc), .val (.ref lk), .val (.ref sq), .val (.int (own_lt (own_c (own_set (0 : Int64) pa pb 0)) (2 : Int32))), .unset, .unset, .unset, .unset, .unset, .unset] []))
    refine own_by (fun t kk_ => XS.aload X44.here hx rfl (hb hby at_225) rfl rfl kk_) ?_
    show OwnG p e below s _ _ _ (T44.setTop (mkF m 227 #[.val (.int va), .val (.int vb), .val (.int vc), .val (.int vd), .val (.int ve), .val (.int (2 : Int32)), .val (.int (1 : Int32)), .val (.int (3 : Int32)), .val (.int ds), .val (.int te), .val (.int pa), .val (.int pb), .val (.int qa), .val (.int qb), .val (.int qc), .val (.ref lk), .val (.ref sq), .val (.int (own_lt (own_c (own_set (0 : Int64) pa pb 0)) (2 : Int32))), .unset, .unset, .unset, .unset, .unset, .unset] [(.ref sq)]))
    refine own_by (fun t kk_ => XS.iload X44.here hx rfl (hb hby at_227) rfl  kk_) ?_
    show OwnG p e below s _ _ _ (T44.setTop (mkF m 229 #[.val (.int va), .val (.int vb), .val (.int vc), .val (.int vd), .val (.int ve), .val (.int (2 : Int32)), .val (.int (1 : Int32)), .val (.int (3 : Int32)), .val (.int ds), .val (.int te), .val (.int pa), .val (.int pb), .val (.int qa), .val (.int qb), .val (.int qc), .val (.ref lk), .val (.ref sq), .val (.int (own_lt (own_c (own_set (0 : Int64) pa pb 0)) (2 : Int32))), .unset, .unset, .unset, .unset, .unset, .unset] [(.int (2 : Int32)), (.ref sq)]))
    refine own_by (fun t kk_ => XS.iload X44.here hx rfl (hb hby at_229) rfl  kk_) ?_
    show OwnG p e below s _ _ _ (T44.setTop (mkF m 231 #[.val (.int va), .val (.int vb), .val (.int vc), .val (.int vd), .val (.int ve), .val (.int (2 : Int32)), .val (.int (1 : Int32)), .val (.int (3 : Int32)), .val (.int ds), .val (.int te), .val (.int pa), .val (.int pb), .val (.int qa), .val (.int qb), .val (.int qc), .val (.ref lk), .val (.ref sq), .val (.int (own_lt (own_c (own_set (0 : Int64) pa pb 0)) (2 : Int32))), .unset, .unset, .unset, .unset, .unset, .unset] [(.int te), (.int (2 : Int32)), (.ref sq)]))
    obtain ⟨cq56, kq56, q56a, q56b, q56c⟩ := isOf hZ (rfl : T44.heap = T44.heap) f45
    obtain ⟨_, _, ⟨T56, L56, k56, n56⟩, -, X56, ⟨Lc56, hQ56, l56, y56, z56⟩, st56⟩ := X44.virtualBack hx (y := (⟨"com/example/score_on_crawl/scoreoncrawl/engine/BreadthFirstSequence", "added", "(IZ)V"⟩ : MethodName)) (z := (⟨"com/example/score_on_crawl/scoreoncrawl/engine/BreadthFirstSequence", "added", "(IZ)V"⟩ : MethodName)) hown (mvT hZ (hw _ (List.mem_of_getElem? (i := 57) rfl))) (mvT hZ (hw _ (List.mem_of_getElem? (i := 58) rfl))) (notFace_of_selects (args := #[]) (mvT hZ (hw _ (List.mem_of_getElem? (i := 60) rfl)))) (mvT hZ (hw _ (List.mem_of_getElem? (i := 60) rfl))) (mvT hZ (hw _ (List.mem_of_getElem? (i := 59) rfl))) (by decide) (backOf (W := 0) (rm9 l Z a0 hw [] sq fp bs wa (2 : Int32) (own_c (own_set (0 : Int64) pa pb 0)) u43 (2 : Int32) te (3 : Int32) (own_set (0 : Int64) pa pb 0) T44.heap n0 sz44 ⟨f45, f46, f47, f48, ⟨f49, f50, ⟨f51, f52, f53, f54, f55⟩⟩⟩ Nn (by decide)) hZ (hw _ (List.mem_of_getElem? (i := 61) rfl)) (hw _ (List.mem_of_getElem? (i := 4) rfl)) (by decide) (by decide)) q56a q56c (g := (mkF m 231 #[.val (.int va), .val (.int vb), .val (.int vc), .val (.int vd), .val (.int ve), .val (.int (2 : Int32)), .val (.int (1 : Int32)), .val (.int (3 : Int32)), .val (.int ds), .val (.int te), .val (.int pa), .val (.int pb), .val (.int qa), .val (.int qb), .val (.int qc), .val (.ref lk), .val (.ref sq), .val (.int (own_lt (own_c (own_set (0 : Int64) pa pb 0)) (2 : Int32))), .unset, .unset, .unset, .unset, .unset, .unset] [(.int te), (.int (2 : Int32)), (.ref sq)])) rfl (by rw [hml]; rfl) (Steps.refl _) (argsL := [(.int (2 : Int32)), (.int te)]) (rest := []) (lenOf pd_5 rfl) rfl (by show 2 * 0 + _ ≤ _; exact Nat.le_of_eq rfl) (hb hby at_231) (fun _ _ => ⟨rfl, (rfl : T44.heap = T44.heap), (by decide : 0 + 1 + 1 + 3 + 0 ≤ _), (by decide : 0 + 3 + 5 + 0 ≤ _)⟩)
    dsimp only [Pt.U, Pt.locs, Pt.cells, Pt.slots] at X56 l56 y56 z56 st56 hQ56
    subst l56 y56 z56
    refine own_by (fun t kk_ => st56.trans kk_) ?_
    obtain ⟨rfl, N56q, S56⟩ := hQ56
    have N56 := Fr.app N44 N56q
    have sz56 : n0 ≤ T56.heap.size := Nat.le_trans Nn.1 (Nat.le_of_lt (Exa.lt S56.1))
    show OwnG p e below s _ _ _ (T56.setTop (mkF m 234 #[.val (.int va), .val (.int vb), .val (.int vc), .val (.int vd), .val (.int ve), .val (.int (2 : Int32)), .val (.int (1 : Int32)), .val (.int (3 : Int32)), .val (.int ds), .val (.int te), .val (.int pa), .val (.int pb), .val (.int qa), .val (.int qb), .val (.int qc), .val (.ref lk), .val (.ref sq), .val (.int (own_lt (own_c (own_set (0 : Int64) pa pb 0)) (2 : Int32))), .unset, .unset, .unset, .unset, .unset, .unset] []))
    refine own_by (fun t kk_ => XS.aload X56.here hx rfl (hb hby at_234) rfl rfl kk_) ?_
    show OwnG p e below s _ _ _ (T56.setTop (mkF m 236 #[.val (.int va), .val (.int vb), .val (.int vc), .val (.int vd), .val (.int ve), .val (.int (2 : Int32)), .val (.int (1 : Int32)), .val (.int (3 : Int32)), .val (.int ds), .val (.int te), .val (.int pa), .val (.int pb), .val (.int qa), .val (.int qb), .val (.int qc), .val (.ref lk), .val (.ref sq), .val (.int (own_lt (own_c (own_set (0 : Int64) pa pb 0)) (2 : Int32))), .unset, .unset, .unset, .unset, .unset, .unset] [(.ref sq)]))
    refine own_by (fun t kk_ => XS.iload X56.here hx rfl (hb hby at_236) rfl  kk_) ?_
    show OwnG p e below s _ _ _ (T56.setTop (mkF m 238 #[.val (.int va), .val (.int vb), .val (.int vc), .val (.int vd), .val (.int ve), .val (.int (2 : Int32)), .val (.int (1 : Int32)), .val (.int (3 : Int32)), .val (.int ds), .val (.int te), .val (.int pa), .val (.int pb), .val (.int qa), .val (.int qb), .val (.int qc), .val (.ref lk), .val (.ref sq), .val (.int (own_lt (own_c (own_set (0 : Int64) pa pb 0)) (2 : Int32))), .unset, .unset, .unset, .unset, .unset, .unset] [(.int qa), (.ref sq)]))
    refine own_by (fun t kk_ => XS.iload X56.here hx rfl (hb hby at_238) rfl  kk_) ?_
    show OwnG p e below s _ _ _ (T56.setTop (mkF m 240 #[.val (.int va), .val (.int vb), .val (.int vc), .val (.int vd), .val (.int ve), .val (.int (2 : Int32)), .val (.int (1 : Int32)), .val (.int (3 : Int32)), .val (.int ds), .val (.int te), .val (.int pa), .val (.int pb), .val (.int qa), .val (.int qb), .val (.int qc), .val (.ref lk), .val (.ref sq), .val (.int (own_lt (own_c (own_set (0 : Int64) pa pb 0)) (2 : Int32))), .unset, .unset, .unset, .unset, .unset, .unset] [(.int qb), (.int qa), (.ref sq)]))
    refine own_by (fun t kk_ => XS.iload X56.here hx rfl (hb hby at_240) rfl  kk_) ?_
    show OwnG p e below s _ _ _ (T56.setTop (mkF m 242 #[.val (.int va), .val (.int vb), .val (.int vc), .val (.int vd), .val (.int ve), .val (.int (2 : Int32)), .val (.int (1 : Int32)), .val (.int (3 : Int32)), .val (.int ds), .val (.int te), .val (.int pa), .val (.int pb), .val (.int qa), .val (.int qb), .val (.int qc), .val (.ref lk), .val (.ref sq), .val (.int (own_lt (own_c (own_set (0 : Int64) pa pb 0)) (2 : Int32))), .unset, .unset, .unset, .unset, .unset, .unset] [(.int qc), (.int qb), (.int qa), (.ref sq)]))
    refine own_by (fun t kk_ => XS.iload X56.here hx rfl (hb hby at_242) rfl  kk_) ?_
    show OwnG p e below s _ _ _ (T56.setTop (mkF m 244 #[.val (.int va), .val (.int vb), .val (.int vc), .val (.int vd), .val (.int ve), .val (.int (2 : Int32)), .val (.int (1 : Int32)), .val (.int (3 : Int32)), .val (.int ds), .val (.int te), .val (.int pa), .val (.int pb), .val (.int qa), .val (.int qb), .val (.int qc), .val (.ref lk), .val (.ref sq), .val (.int (own_lt (own_c (own_set (0 : Int64) pa pb 0)) (2 : Int32))), .unset, .unset, .unset, .unset, .unset, .unset] [(.int ds), (.int qc), (.int qb), (.int qa), (.ref sq)]))
    refine own_by (fun t kk_ => XS.aload X56.here hx rfl (hb hby at_244) rfl rfl kk_) ?_
    show OwnG p e below s _ _ _ (T56.setTop (mkF m 246 #[.val (.int va), .val (.int vb), .val (.int vc), .val (.int vd), .val (.int ve), .val (.int (2 : Int32)), .val (.int (1 : Int32)), .val (.int (3 : Int32)), .val (.int ds), .val (.int te), .val (.int pa), .val (.int pb), .val (.int qa), .val (.int qb), .val (.int qc), .val (.ref lk), .val (.ref sq), .val (.int (own_lt (own_c (own_set (0 : Int64) pa pb 0)) (2 : Int32))), .unset, .unset, .unset, .unset, .unset, .unset] [(.ref lk), (.int ds), (.int qc), (.int qb), (.int qa), (.ref sq)]))
    obtain ⟨_, _, ⟨T57, L57, k57, n57⟩, -, X57, ⟨Lc57, hQ57, l57, y57, z57⟩, st57⟩ := Jvm.LawKit.callS X56 hx (y := (⟨"com/example/score_on_crawl/scoreoncrawl/engine/BreadthFirstSequenceHasNextPinLaw", "fetchThree", "(Lcom/example/score_on_crawl/scoreoncrawl/engine/BreadthFirstSequence;ZZZZ[I)V"⟩ : MethodName)) hown (mvT hZ (hw _ (List.mem_of_getElem? (i := 62) rfl))) (mvT hZ (hw _ (List.mem_of_getElem? (i := 63) rfl))) (mvT hZ (hw _ (List.mem_of_getElem? (i := 46) rfl))) (mvT hZ (hw _ (List.mem_of_getElem? (i := 64) rfl))) (by decide) (backOf (W := 0) (rm10 l Z a0 hw [] sq fp bs wa lk (3 : Int32) (own_c (own_set (0 : Int64) pa pb 0)) u43 qa qb qc ds (own_set (0 : Int64) pa pb 0) T56.heap n0 sz56 ⟨S56.1, S56.2.1, S56.2.2.1, S56.2.2.2.1, ⟨S56.2.2.2.2.1, S56.2.2.2.2.2.1, ⟨S56.2.2.2.2.2.2.1, S56.2.2.2.2.2.2.2.1, S56.2.2.2.2.2.2.2.2.1, S56.2.2.2.2.2.2.2.2.2.1, S56.2.2.2.2.2.2.2.2.2.2⟩⟩⟩ Nn hu43 hm43 rfl) hZ (hw _ (List.mem_of_getElem? (i := 64) rfl)) (hw _ (List.mem_of_getElem? (i := 46) rfl)) (by decide) (by decide)) (g := (mkF m 246 #[.val (.int va), .val (.int vb), .val (.int vc), .val (.int vd), .val (.int ve), .val (.int (2 : Int32)), .val (.int (1 : Int32)), .val (.int (3 : Int32)), .val (.int ds), .val (.int te), .val (.int pa), .val (.int pb), .val (.int qa), .val (.int qb), .val (.int qc), .val (.ref lk), .val (.ref sq), .val (.int (own_lt (own_c (own_set (0 : Int64) pa pb 0)) (2 : Int32))), .unset, .unset, .unset, .unset, .unset, .unset] [(.ref lk), (.int ds), (.int qc), (.int qb), (.int qa), (.ref sq)])) rfl (by rw [hml]; rfl) (argsL := [(.ref sq), (.int qa), (.int qb), (.int qc), (.int ds), (.ref lk)]) (rest := []) (lenOf pd_8 rfl) rfl (by show 2 * 0 + _ ≤ _; exact Nat.le_of_eq rfl) (hb hby at_246) (fun _ _ => ⟨rfl, (rfl : T56.heap = T56.heap), (by decide : 0 + 1 + 1 + 3 + 0 ≤ _), (by decide : 0 + 3 + 5 + 0 ≤ _)⟩)
    dsimp only [Pt.U, Pt.locs, Pt.cells, Pt.slots] at X57 l57 y57 z57 st57 hQ57
    subst l57 y57 z57
    refine own_by (fun t kk_ => st57 _ kk_) ?_
    obtain ⟨rfl, N57q, u57, hm57, hu57, S57⟩ := hQ57
    have N57 := Fr.app N56 N57q
    have sz57 : n0 ≤ T57.heap.size := Nat.le_trans Nn.1 (Nat.le_of_lt (Exa.lt S57.1))
    show OwnG p e below s _ _ _ (T57.setTop (mkF m 249 #[.val (.int va), .val (.int vb), .val (.int vc), .val (.int vd), .val (.int ve), .val (.int (2 : Int32)), .val (.int (1 : Int32)), .val (.int (3 : Int32)), .val (.int ds), .val (.int te), .val (.int pa), .val (.int pb), .val (.int qa), .val (.int qb), .val (.int qc), .val (.ref lk), .val (.ref sq), .val (.int (own_lt (own_c (own_set (0 : Int64) pa pb 0)) (2 : Int32))), .unset, .unset, .unset, .unset, .unset, .unset] []))
    refine own_by (fun t kk_ => XS.aload X57.here hx rfl (hb hby at_249) rfl rfl kk_) ?_
    show OwnG p e below s _ _ _ (T57.setTop (mkF m 251 #[.val (.int va), .val (.int vb), .val (.int vc), .val (.int vd), .val (.int ve), .val (.int (2 : Int32)), .val (.int (1 : Int32)), .val (.int (3 : Int32)), .val (.int ds), .val (.int te), .val (.int pa), .val (.int pb), .val (.int qa), .val (.int qb), .val (.int qc), .val (.ref lk), .val (.ref sq), .val (.int (own_lt (own_c (own_set (0 : Int64) pa pb 0)) (2 : Int32))), .unset, .unset, .unset, .unset, .unset, .unset] [(.ref sq)]))
    obtain ⟨cq58, kq58, q58a, q58b, q58c⟩ := isOf hZ (rfl : T57.heap = T57.heap) S57.1
    obtain ⟨_, _, ⟨T58, L58, k58, n58⟩, -, X58, ⟨Lc58, hQ58, l58, y58, z58⟩, st58⟩ := X57.virtualBack hx (y := (⟨"com/example/score_on_crawl/scoreoncrawl/engine/BreadthFirstSequence", "hasNext", "()Z"⟩ : MethodName)) (z := (⟨"com/example/score_on_crawl/scoreoncrawl/engine/BreadthFirstSequence", "hasNext", "()Z"⟩ : MethodName)) hown (mvT hZ (hw _ (List.mem_of_getElem? (i := 48) rfl))) (mvT hZ (hw _ (List.mem_of_getElem? (i := 49) rfl))) (notFace_of_selects (args := #[]) (mvT hZ (hw _ (List.mem_of_getElem? (i := 51) rfl)))) (mvT hZ (hw _ (List.mem_of_getElem? (i := 51) rfl))) (mvT hZ (hw _ (List.mem_of_getElem? (i := 50) rfl))) (by decide) (backOf (W := 0) (rm8 l Z a0 hw [] sq fp bs wa (3 : Int32) (own_c (own_set (own_set (0 : Int64) pa pb 0) qa qb qc)) u57 (own_set (own_set (0 : Int64) pa pb 0) qa qb qc) T57.heap n0 sz57 ⟨S57.1, S57.2.1, S57.2.2.1, S57.2.2.2.1, ⟨S57.2.2.2.2.1, S57.2.2.2.2.2.1, ⟨S57.2.2.2.2.2.2.1, S57.2.2.2.2.2.2.2.1, S57.2.2.2.2.2.2.2.2.1, S57.2.2.2.2.2.2.2.2.2.1, S57.2.2.2.2.2.2.2.2.2.2⟩⟩⟩) hZ (hw _ (List.mem_of_getElem? (i := 52) rfl)) (hw _ (List.mem_of_getElem? (i := 4) rfl)) (by decide) (by decide)) q58a q58c (g := (mkF m 251 #[.val (.int va), .val (.int vb), .val (.int vc), .val (.int vd), .val (.int ve), .val (.int (2 : Int32)), .val (.int (1 : Int32)), .val (.int (3 : Int32)), .val (.int ds), .val (.int te), .val (.int pa), .val (.int pb), .val (.int qa), .val (.int qb), .val (.int qc), .val (.ref lk), .val (.ref sq), .val (.int (own_lt (own_c (own_set (0 : Int64) pa pb 0)) (2 : Int32))), .unset, .unset, .unset, .unset, .unset, .unset] [(.ref sq)])) rfl (by rw [hml]; rfl) (Steps.refl _) (argsL := []) (rest := []) (lenOf pd_7 rfl) rfl (by show 2 * 0 + _ ≤ _; exact Nat.le_of_eq rfl) (hb hby at_251) (fun _ _ => ⟨rfl, (rfl : T57.heap = T57.heap), (by decide : 0 + 1 + 1 + 3 + 0 ≤ _), (by decide : 0 + 3 + 5 + 0 ≤ _)⟩)
    dsimp only [Pt.U, Pt.locs, Pt.cells, Pt.slots] at X58 l58 y58 z58 st58 hQ58
    subst l58 y58 z58
    refine own_by (fun t kk_ => st58.trans kk_) ?_
    obtain ⟨rfl, N58q, hh58⟩ := hQ58
    have N58 := Fr.app N57 N58q
    have f59 := S57.1
    rw [← hh58] at f59
    have f60 := S57.2.1
    rw [← hh58] at f60
    have f61 := S57.2.2.1
    rw [← hh58] at f61
    have f62 := S57.2.2.2.1
    rw [← hh58] at f62
    have f63 := S57.2.2.2.2.1
    rw [← hh58] at f63
    have f64 := S57.2.2.2.2.2.1
    rw [← hh58] at f64
    have f65 := S57.2.2.2.2.2.2.1
    rw [← hh58] at f65
    have f66 := S57.2.2.2.2.2.2.2.1
    rw [← hh58] at f66
    have f67 := S57.2.2.2.2.2.2.2.2.1
    rw [← hh58] at f67
    have f68 := S57.2.2.2.2.2.2.2.2.2.1
    rw [← hh58] at f68
    have f69 := S57.2.2.2.2.2.2.2.2.2.2
    rw [← hh58] at f69
    have sz58 : n0 ≤ T58.heap.size := by rw [hh58]; exact sz57
    show OwnG p e below s _ _ _ (T58.setTop (mkF m 254 #[.val (.int va), .val (.int vb), .val (.int vc), .val (.int vd), .val (.int ve), .val (.int (2 : Int32)), .val (.int (1 : Int32)), .val (.int (3 : Int32)), .val (.int ds), .val (.int te), .val (.int pa), .val (.int pb), .val (.int qa), .val (.int qb), .val (.int qc), .val (.ref lk), .val (.ref sq), .val (.int (own_lt (own_c (own_set (0 : Int64) pa pb 0)) (2 : Int32))), .unset, .unset, .unset, .unset, .unset, .unset] [(.int (own_lt (own_c (own_set (own_set (0 : Int64) pa pb 0) qa qb qc)) (3 : Int32)))]))
    refine own_by (fun t kk_ => XS.istore X58.here hx rfl (hb hby at_254) rfl (l' := #[.val (.int va), .val (.int vb), .val (.int vc), .val (.int vd), .val (.int ve), .val (.int (2 : Int32)), .val (.int (1 : Int32)), .val (.int (3 : Int32)), .val (.int ds), .val (.int te), .val (.int pa), .val (.int pb), .val (.int qa), .val (.int qb), .val (.int qc), .val (.ref lk), .val (.ref sq), .val (.int (own_lt (own_c (own_set (0 : Int64) pa pb 0)) (2 : Int32))), .val (.int (own_lt (own_c (own_set (own_set (0 : Int64) pa pb 0) qa qb qc)) (3 : Int32))), .unset, .unset, .unset, .unset, .unset]) rfl kk_) ?_
    show OwnG p e below s _ _ _ (T58.setTop (mkF m 256 #[.val (.int va), .val (.int vb), .val (.int vc), .val (.int vd), .val (.int ve), .val (.int (2 : Int32)), .val (.int (1 : Int32)), .val (.int (3 : Int32)), .val (.int ds), .val (.int te), .val (.int pa), .val (.int pb), .val (.int qa), .val (.int qb), .val (.int qc), .val (.ref lk), .val (.ref sq), .val (.int (own_lt (own_c (own_set (0 : Int64) pa pb 0)) (2 : Int32))), .val (.int (own_lt (own_c (own_set (own_set (0 : Int64) pa pb 0) qa qb qc)) (3 : Int32))), .unset, .unset, .unset, .unset, .unset] []))
    exact own_t256 va vb vc vd ve (2 : Int32) (1 : Int32) (3 : Int32) ds te pa pb qa qb qc _ _ lk sq X58 hx hby hml hret hlk hown hnm hZ hw (rfl : T58.heap = T58.heap) N58 sz58 (own_h1 (Or.inr (Or.inr (rfl))) za zb) (own_h2 (Or.inr (Or.inr (Or.inr (rfl)))) za zb zc zd ze)
set_option maxRecDepth 65536 in
set_option maxHeartbeats 40000000 in
theorem own_f149 {p : Program} {l : Launch} {e : Env} {s : State} {m : MethodId} {args : Array Value} {below : List Frame} {meth : Method} {c : Code} {T0 : State} {locs : List Loc} {Z : State} {a0 : Array Value} {h0 : Heap} {n0 : Nat} (va vb vc vd ve k1 k2 k3 ds te pa pb qa qb qc : Int32) (X0 : Stand p l e room_1 s m args below meth c T0 locs (0) (0)) (hx : p.tables.exec = Jvm.exec) (hby : c.code = code) (hml : c.maxLocals = 24) (hret : meth.sig.returnType = some .boolean) (hlk : meth.locks = false) (hown : s.vm.findClass "com/example/score_on_crawl/scoreoncrawl/engine/BreadthFirstSequenceHasNextPinLaw" = some m.cls) (hnm : meth.name = "law") (hZ : Z.Warmed39 s.vm) (hw : ∀ d ∈ tables_1, d.before a0 Z = true) (e0 : T0.heap = h0) (N0 : Fr n0 locs) (Z0 : n0 ≤ h0.size) (SA : Sta Z h0 "java/util/BitSet" "$assertionsDisabled" "Z" (.int (1 : Int32))) (hk1 : k1 = 0 ∨ k1 = 1 ∨ k1 = 2) (hk2 : own_z k2) (hk3 : k3 = k1 + k2) (za : own_z pa) (zb : own_z pb) (zc : own_z qa) (zd : own_z qb) (ze : own_z qc) :
    OwnG p e below s (fun v h L => v = some (.int (1 : Int32)) ∧ Fr n0 L) room_1.cells room_1.slots (T0.setTop (mkF m 149 #[.val (.int va), .val (.int vb), .val (.int vc), .val (.int vd), .val (.int ve), .val (.int k1), .val (.int k2), .val (.int k3), .val (.int ds), .val (.int te), .val (.int pa), .val (.int pb), .val (.int qa), .val (.int qb), .unset, .unset, .unset, .unset, .unset, .unset, .unset, .unset, .unset, .unset] [(.int qc)])) := by
  show OwnG p e below s _ _ _ (T0.setTop (mkF m 149 #[.val (.int va), .val (.int vb), .val (.int vc), .val (.int vd), .val (.int ve), .val (.int k1), .val (.int k2), .val (.int k3), .val (.int ds), .val (.int te), .val (.int pa), .val (.int pb), .val (.int qa), .val (.int qb), .unset, .unset, .unset, .unset, .unset, .unset, .unset, .unset, .unset, .unset] [(.int qc)]))
  refine own_by (fun t kk_ => XS.istore X0.here hx rfl (hb hby at_149) rfl (l' := #[.val (.int va), .val (.int vb), .val (.int vc), .val (.int vd), .val (.int ve), .val (.int k1), .val (.int k2), .val (.int k3), .val (.int ds), .val (.int te), .val (.int pa), .val (.int pb), .val (.int qa), .val (.int qb), .val (.int qc), .unset, .unset, .unset, .unset, .unset, .unset, .unset, .unset, .unset]) rfl kk_) ?_
  show OwnG p e below s _ _ _ (T0.setTop (mkF m 151 #[.val (.int va), .val (.int vb), .val (.int vc), .val (.int vd), .val (.int ve), .val (.int k1), .val (.int k2), .val (.int k3), .val (.int ds), .val (.int te), .val (.int pa), .val (.int pb), .val (.int qa), .val (.int qb), .val (.int qc), .unset, .unset, .unset, .unset, .unset, .unset, .unset, .unset, .unset] []))
  rcases hk1 with rfl | rfl | rfl <;> rcases hk2 with rfl | rfl <;> subst hk3
  · exact own_m00 va vb vc vd ve ds te pa pb qa qb qc X0 hx hby hml hret hlk hown hnm hZ hw e0 N0 Z0 SA za zb zc zd ze
  · exact own_m01 va vb vc vd ve ds te pa pb qa qb qc X0 hx hby hml hret hlk hown hnm hZ hw e0 N0 Z0 SA za zb zc zd ze
  · exact own_m10 va vb vc vd ve ds te pa pb qa qb qc X0 hx hby hml hret hlk hown hnm hZ hw e0 N0 Z0 SA za zb zc zd ze
  · exact own_m11 va vb vc vd ve ds te pa pb qa qb qc X0 hx hby hml hret hlk hown hnm hZ hw e0 N0 Z0 SA za zb zc zd ze
  · exact own_m20 va vb vc vd ve ds te pa pb qa qb qc X0 hx hby hml hret hlk hown hnm hZ hw e0 N0 Z0 SA za zb zc zd ze
  · exact own_m21 va vb vc vd ve ds te pa pb qa qb qc X0 hx hby hml hret hlk hown hnm hZ hw e0 N0 Z0 SA za zb zc zd ze
set_option maxRecDepth 65536 in
set_option maxHeartbeats 40000000 in
theorem own_f130 {p : Program} {l : Launch} {e : Env} {s : State} {m : MethodId} {args : Array Value} {below : List Frame} {meth : Method} {c : Code} {T0 : State} {locs : List Loc} {Z : State} {a0 : Array Value} {h0 : Heap} {n0 : Nat} (va vb vc vd ve k1 k2 k3 ds te pa pb qa qb : Int32) (X0 : Stand p l e room_1 s m args below meth c T0 locs (0) (0)) (hx : p.tables.exec = Jvm.exec) (hby : c.code = code) (hml : c.maxLocals = 24) (hret : meth.sig.returnType = some .boolean) (hlk : meth.locks = false) (hown : s.vm.findClass "com/example/score_on_crawl/scoreoncrawl/engine/BreadthFirstSequenceHasNextPinLaw" = some m.cls) (hnm : meth.name = "law") (hZ : Z.Warmed39 s.vm) (hw : ∀ d ∈ tables_1, d.before a0 Z = true) (e0 : T0.heap = h0) (N0 : Fr n0 locs) (Z0 : n0 ≤ h0.size) (SA : Sta Z h0 "java/util/BitSet" "$assertionsDisabled" "Z" (.int (1 : Int32))) (hk1 : k1 = 0 ∨ k1 = 1 ∨ k1 = 2) (hk2 : own_z k2) (hk3 : k3 = k1 + k2) (za : own_z pa) (zb : own_z pb) (zc : own_z qa) (zd : own_z qb) :
    OwnG p e below s (fun v h L => v = some (.int (1 : Int32)) ∧ Fr n0 L) room_1.cells room_1.slots (T0.setTop (mkF m 130 #[.val (.int va), .val (.int vb), .val (.int vc), .val (.int vd), .val (.int ve), .val (.int k1), .val (.int k2), .val (.int k3), .val (.int ds), .val (.int te), .val (.int pa), .val (.int pb), .val (.int qa), .unset, .unset, .unset, .unset, .unset, .unset, .unset, .unset, .unset, .unset, .unset] [(.int qb)])) := by
  show OwnG p e below s _ _ _ (T0.setTop (mkF m 130 #[.val (.int va), .val (.int vb), .val (.int vc), .val (.int vd), .val (.int ve), .val (.int k1), .val (.int k2), .val (.int k3), .val (.int ds), .val (.int te), .val (.int pa), .val (.int pb), .val (.int qa), .unset, .unset, .unset, .unset, .unset, .unset, .unset, .unset, .unset, .unset, .unset] [(.int qb)]))
  refine own_by (fun t kk_ => XS.istore X0.here hx rfl (hb hby at_130) rfl (l' := #[.val (.int va), .val (.int vb), .val (.int vc), .val (.int vd), .val (.int ve), .val (.int k1), .val (.int k2), .val (.int k3), .val (.int ds), .val (.int te), .val (.int pa), .val (.int pb), .val (.int qa), .val (.int qb), .unset, .unset, .unset, .unset, .unset, .unset, .unset, .unset, .unset, .unset]) rfl kk_) ?_
  show OwnG p e below s _ _ _ (T0.setTop (mkF m 132 #[.val (.int va), .val (.int vb), .val (.int vc), .val (.int vd), .val (.int ve), .val (.int k1), .val (.int k2), .val (.int k3), .val (.int ds), .val (.int te), .val (.int pa), .val (.int pb), .val (.int qa), .val (.int qb), .unset, .unset, .unset, .unset, .unset, .unset, .unset, .unset, .unset, .unset] []))
  refine own_by (fun t kk_ => XS.iload X0.here hx rfl (hb hby at_132) rfl  kk_) ?_
  show OwnG p e below s _ _ _ (T0.setTop (mkF m 134 #[.val (.int va), .val (.int vb), .val (.int vc), .val (.int vd), .val (.int ve), .val (.int k1), .val (.int k2), .val (.int k3), .val (.int ds), .val (.int te), .val (.int pa), .val (.int pb), .val (.int qa), .val (.int qb), .unset, .unset, .unset, .unset, .unset, .unset, .unset, .unset, .unset, .unset] [(.int k3)]))
  refine own_by (fun t kk_ => XS.iconst X0.here hx rfl (hb hby at_134) kk_) ?_
  show OwnG p e below s _ _ _ (T0.setTop (mkF m 135 #[.val (.int va), .val (.int vb), .val (.int vc), .val (.int vd), .val (.int ve), .val (.int k1), .val (.int k2), .val (.int k3), .val (.int ds), .val (.int te), .val (.int pa), .val (.int pb), .val (.int qa), .val (.int qb), .unset, .unset, .unset, .unset, .unset, .unset, .unset, .unset, .unset, .unset] [(.int (2 : Int32)), (.int k3)]))
  by_cases hb135_1 : (2 : Int32) < k3
  · refine own_by (fun t kk_ => XS.icmpNo X0.here hx rfl (hb hby at_135) rfl (tlt hb135_1).2.2.2 kk_) ?_
    show OwnG p e below s _ _ _ (T0.setTop (mkF m 138 #[.val (.int va), .val (.int vb), .val (.int vc), .val (.int vd), .val (.int ve), .val (.int k1), .val (.int k2), .val (.int k3), .val (.int ds), .val (.int te), .val (.int pa), .val (.int pb), .val (.int qa), .val (.int qb), .unset, .unset, .unset, .unset, .unset, .unset, .unset, .unset, .unset, .unset] []))
    refine own_by (fun t kk_ => XS.iloadN X0.here hx rfl (hb hby at_138) rfl  kk_) ?_
    show OwnG p e below s _ _ _ (T0.setTop (mkF m 139 #[.val (.int va), .val (.int vb), .val (.int vc), .val (.int vd), .val (.int ve), .val (.int k1), .val (.int k2), .val (.int k3), .val (.int ds), .val (.int te), .val (.int pa), .val (.int pb), .val (.int qa), .val (.int qb), .unset, .unset, .unset, .unset, .unset, .unset, .unset, .unset, .unset, .unset] [(.int vd)]))
    refine own_by (fun t kk_ => XS.iconst X0.here hx rfl (hb hby at_139) kk_) ?_
    show OwnG p e below s _ _ _ (T0.setTop (mkF m 140 #[.val (.int va), .val (.int vb), .val (.int vc), .val (.int vd), .val (.int ve), .val (.int k1), .val (.int k2), .val (.int k3), .val (.int ds), .val (.int te), .val (.int pa), .val (.int pb), .val (.int qa), .val (.int qb), .unset, .unset, .unset, .unset, .unset, .unset, .unset, .unset, .unset, .unset] [(.int (4 : Int32)), (.int vd)]))
    refine own_by (fun t kk_ => XS.iand X0.here hx rfl (hb hby at_140) rfl kk_) ?_
    show OwnG p e below s _ _ _ (T0.setTop (mkF m 141 #[.val (.int va), .val (.int vb), .val (.int vc), .val (.int vd), .val (.int ve), .val (.int k1), .val (.int k2), .val (.int k3), .val (.int ds), .val (.int te), .val (.int pa), .val (.int pb), .val (.int qa), .val (.int qb), .unset, .unset, .unset, .unset, .unset, .unset, .unset, .unset, .unset, .unset] [(.int (vd &&& (4 : Int32)))]))
    by_cases hb141_2 : (vd &&& (4 : Int32)) = (0 : Int32)
    · refine own_by (fun t kk_ => XS.ifYes X0.here hx rfl (pc0 := 141) (pc' := 148) rfl (hb hby at_141) rfl ((if0 _ _).trans (teq hb141_2).1) (by decide) (by decide) kk_) ?_
      show OwnG p e below s _ _ _ (T0.setTop (mkF m 148 #[.val (.int va), .val (.int vb), .val (.int vc), .val (.int vd), .val (.int ve), .val (.int k1), .val (.int k2), .val (.int k3), .val (.int ds), .val (.int te), .val (.int pa), .val (.int pb), .val (.int qa), .val (.int qb), .unset, .unset, .unset, .unset, .unset, .unset, .unset, .unset, .unset, .unset] []))
      refine own_by (fun t kk_ => XS.iconst X0.here hx rfl (hb hby at_148) kk_) ?_
      show OwnG p e below s _ _ _ (T0.setTop (mkF m 149 #[.val (.int va), .val (.int vb), .val (.int vc), .val (.int vd), .val (.int ve), .val (.int k1), .val (.int k2), .val (.int k3), .val (.int ds), .val (.int te), .val (.int pa), .val (.int pb), .val (.int qa), .val (.int qb), .unset, .unset, .unset, .unset, .unset, .unset, .unset, .unset, .unset, .unset] [(.int (0 : Int32))]))
      exact own_f149 va vb vc vd ve k1 k2 k3 ds te pa pb qa qb (0 : Int32) X0 hx hby hml hret hlk hown hnm hZ hw e0 N0 Z0 SA hk1 hk2 hk3 za zb zc zd (Or.inl rfl)
    · refine own_by (fun t kk_ => XS.ifNo X0.here hx rfl (hb hby at_141) rfl ((if0 _ _).trans (feq hb141_2).1) kk_) ?_
      show OwnG p e below s _ _ _ (T0.setTop (mkF m 144 #[.val (.int va), .val (.int vb), .val (.int vc), .val (.int vd), .val (.int ve), .val (.int k1), .val (.int k2), .val (.int k3), .val (.int ds), .val (.int te), .val (.int pa), .val (.int pb), .val (.int qa), .val (.int qb), .unset, .unset, .unset, .unset, .unset, .unset, .unset, .unset, .unset, .unset] []))
      refine own_by (fun t kk_ => XS.iconst X0.here hx rfl (hb hby at_144) kk_) ?_
      show OwnG p e below s _ _ _ (T0.setTop (mkF m 145 #[.val (.int va), .val (.int vb), .val (.int vc), .val (.int vd), .val (.int ve), .val (.int k1), .val (.int k2), .val (.int k3), .val (.int ds), .val (.int te), .val (.int pa), .val (.int pb), .val (.int qa), .val (.int qb), .unset, .unset, .unset, .unset, .unset, .unset, .unset, .unset, .unset, .unset] [(.int (1 : Int32))]))
      refine own_by (fun t kk_ => XS.goto X0.here hx rfl (pc0 := 145) (pc' := 149) rfl (hb hby at_145) (by decide) (by decide) kk_) ?_
      show OwnG p e below s _ _ _ (T0.setTop (mkF m 149 #[.val (.int va), .val (.int vb), .val (.int vc), .val (.int vd), .val (.int ve), .val (.int k1), .val (.int k2), .val (.int k3), .val (.int ds), .val (.int te), .val (.int pa), .val (.int pb), .val (.int qa), .val (.int qb), .unset, .unset, .unset, .unset, .unset, .unset, .unset, .unset, .unset, .unset] [(.int (1 : Int32))]))
      exact own_f149 va vb vc vd ve k1 k2 k3 ds te pa pb qa qb (1 : Int32) X0 hx hby hml hret hlk hown hnm hZ hw e0 N0 Z0 SA hk1 hk2 hk3 za zb zc zd (Or.inr rfl)
  · refine own_by (fun t kk_ => XS.icmpYes X0.here hx rfl (pc0 := 135) (pc' := 148) rfl (hb hby at_135) rfl (flt hb135_1).2.2.2 (by decide) (by decide) kk_) ?_
    show OwnG p e below s _ _ _ (T0.setTop (mkF m 148 #[.val (.int va), .val (.int vb), .val (.int vc), .val (.int vd), .val (.int ve), .val (.int k1), .val (.int k2), .val (.int k3), .val (.int ds), .val (.int te), .val (.int pa), .val (.int pb), .val (.int qa), .val (.int qb), .unset, .unset, .unset, .unset, .unset, .unset, .unset, .unset, .unset, .unset] []))
    refine own_by (fun t kk_ => XS.iconst X0.here hx rfl (hb hby at_148) kk_) ?_
    show OwnG p e below s _ _ _ (T0.setTop (mkF m 149 #[.val (.int va), .val (.int vb), .val (.int vc), .val (.int vd), .val (.int ve), .val (.int k1), .val (.int k2), .val (.int k3), .val (.int ds), .val (.int te), .val (.int pa), .val (.int pb), .val (.int qa), .val (.int qb), .unset, .unset, .unset, .unset, .unset, .unset, .unset, .unset, .unset, .unset] [(.int (0 : Int32))]))
    exact own_f149 va vb vc vd ve k1 k2 k3 ds te pa pb qa qb (0 : Int32) X0 hx hby hml hret hlk hown hnm hZ hw e0 N0 Z0 SA hk1 hk2 hk3 za zb zc zd (Or.inl rfl)
set_option maxRecDepth 65536 in
set_option maxHeartbeats 40000000 in
theorem own_f106 {p : Program} {l : Launch} {e : Env} {s : State} {m : MethodId} {args : Array Value} {below : List Frame} {meth : Method} {c : Code} {T0 : State} {locs : List Loc} {Z : State} {a0 : Array Value} {h0 : Heap} {n0 : Nat} (va vb vc vd ve k1 k2 k3 ds te pa pb qa : Int32) (X0 : Stand p l e room_1 s m args below meth c T0 locs (0) (0)) (hx : p.tables.exec = Jvm.exec) (hby : c.code = code) (hml : c.maxLocals = 24) (hret : meth.sig.returnType = some .boolean) (hlk : meth.locks = false) (hown : s.vm.findClass "com/example/score_on_crawl/scoreoncrawl/engine/BreadthFirstSequenceHasNextPinLaw" = some m.cls) (hnm : meth.name = "law") (hZ : Z.Warmed39 s.vm) (hw : ∀ d ∈ tables_1, d.before a0 Z = true) (e0 : T0.heap = h0) (N0 : Fr n0 locs) (Z0 : n0 ≤ h0.size) (SA : Sta Z h0 "java/util/BitSet" "$assertionsDisabled" "Z" (.int (1 : Int32))) (hk1 : k1 = 0 ∨ k1 = 1 ∨ k1 = 2) (hk2 : own_z k2) (hk3 : k3 = k1 + k2) (za : own_z pa) (zb : own_z pb) (zc : own_z qa) :
    OwnG p e below s (fun v h L => v = some (.int (1 : Int32)) ∧ Fr n0 L) room_1.cells room_1.slots (T0.setTop (mkF m 106 #[.val (.int va), .val (.int vb), .val (.int vc), .val (.int vd), .val (.int ve), .val (.int k1), .val (.int k2), .val (.int k3), .val (.int ds), .val (.int te), .val (.int pa), .val (.int pb), .unset, .unset, .unset, .unset, .unset, .unset, .unset, .unset, .unset, .unset, .unset, .unset] [(.int qa)])) := by
  show OwnG p e below s _ _ _ (T0.setTop (mkF m 106 #[.val (.int va), .val (.int vb), .val (.int vc), .val (.int vd), .val (.int ve), .val (.int k1), .val (.int k2), .val (.int k3), .val (.int ds), .val (.int te), .val (.int pa), .val (.int pb), .unset, .unset, .unset, .unset, .unset, .unset, .unset, .unset, .unset, .unset, .unset, .unset] [(.int qa)]))
  refine own_by (fun t kk_ => XS.istore X0.here hx rfl (hb hby at_106) rfl (l' := #[.val (.int va), .val (.int vb), .val (.int vc), .val (.int vd), .val (.int ve), .val (.int k1), .val (.int k2), .val (.int k3), .val (.int ds), .val (.int te), .val (.int pa), .val (.int pb), .val (.int qa), .unset, .unset, .unset, .unset, .unset, .unset, .unset, .unset, .unset, .unset, .unset]) rfl kk_) ?_
  show OwnG p e below s _ _ _ (T0.setTop (mkF m 108 #[.val (.int va), .val (.int vb), .val (.int vc), .val (.int vd), .val (.int ve), .val (.int k1), .val (.int k2), .val (.int k3), .val (.int ds), .val (.int te), .val (.int pa), .val (.int pb), .val (.int qa), .unset, .unset, .unset, .unset, .unset, .unset, .unset, .unset, .unset, .unset, .unset] []))
  refine own_by (fun t kk_ => XS.iload X0.here hx rfl (hb hby at_108) rfl  kk_) ?_
  show OwnG p e below s _ _ _ (T0.setTop (mkF m 110 #[.val (.int va), .val (.int vb), .val (.int vc), .val (.int vd), .val (.int ve), .val (.int k1), .val (.int k2), .val (.int k3), .val (.int ds), .val (.int te), .val (.int pa), .val (.int pb), .val (.int qa), .unset, .unset, .unset, .unset, .unset, .unset, .unset, .unset, .unset, .unset, .unset] [(.int pb)]))
  by_cases hb110_1 : pb = (0 : Int32)
  · refine own_by (fun t kk_ => XS.ifNo X0.here hx rfl (hb hby at_110) rfl ((if0 _ _).trans (teq hb110_1).2) kk_) ?_
    show OwnG p e below s _ _ _ (T0.setTop (mkF m 113 #[.val (.int va), .val (.int vb), .val (.int vc), .val (.int vd), .val (.int ve), .val (.int k1), .val (.int k2), .val (.int k3), .val (.int ds), .val (.int te), .val (.int pa), .val (.int pb), .val (.int qa), .unset, .unset, .unset, .unset, .unset, .unset, .unset, .unset, .unset, .unset, .unset] []))
    refine own_by (fun t kk_ => XS.iload X0.here hx rfl (hb hby at_113) rfl  kk_) ?_
    show OwnG p e below s _ _ _ (T0.setTop (mkF m 115 #[.val (.int va), .val (.int vb), .val (.int vc), .val (.int vd), .val (.int ve), .val (.int k1), .val (.int k2), .val (.int k3), .val (.int ds), .val (.int te), .val (.int pa), .val (.int pb), .val (.int qa), .unset, .unset, .unset, .unset, .unset, .unset, .unset, .unset, .unset, .unset, .unset] [(.int k3)]))
    refine own_by (fun t kk_ => XS.iconst X0.here hx rfl (hb hby at_115) kk_) ?_
    show OwnG p e below s _ _ _ (T0.setTop (mkF m 116 #[.val (.int va), .val (.int vb), .val (.int vc), .val (.int vd), .val (.int ve), .val (.int k1), .val (.int k2), .val (.int k3), .val (.int ds), .val (.int te), .val (.int pa), .val (.int pb), .val (.int qa), .unset, .unset, .unset, .unset, .unset, .unset, .unset, .unset, .unset, .unset, .unset] [(.int (1 : Int32)), (.int k3)]))
    by_cases hb116_2 : (1 : Int32) < k3
    · refine own_by (fun t kk_ => XS.icmpNo X0.here hx rfl (hb hby at_116) rfl (tlt hb116_2).2.2.2 kk_) ?_
      show OwnG p e below s _ _ _ (T0.setTop (mkF m 119 #[.val (.int va), .val (.int vb), .val (.int vc), .val (.int vd), .val (.int ve), .val (.int k1), .val (.int k2), .val (.int k3), .val (.int ds), .val (.int te), .val (.int pa), .val (.int pb), .val (.int qa), .unset, .unset, .unset, .unset, .unset, .unset, .unset, .unset, .unset, .unset, .unset] []))
      refine own_by (fun t kk_ => XS.iloadN X0.here hx rfl (hb hby at_119) rfl  kk_) ?_
      show OwnG p e below s _ _ _ (T0.setTop (mkF m 120 #[.val (.int va), .val (.int vb), .val (.int vc), .val (.int vd), .val (.int ve), .val (.int k1), .val (.int k2), .val (.int k3), .val (.int ds), .val (.int te), .val (.int pa), .val (.int pb), .val (.int qa), .unset, .unset, .unset, .unset, .unset, .unset, .unset, .unset, .unset, .unset, .unset] [(.int vd)]))
      refine own_by (fun t kk_ => XS.iconst X0.here hx rfl (hb hby at_120) kk_) ?_
      show OwnG p e below s _ _ _ (T0.setTop (mkF m 121 #[.val (.int va), .val (.int vb), .val (.int vc), .val (.int vd), .val (.int ve), .val (.int k1), .val (.int k2), .val (.int k3), .val (.int ds), .val (.int te), .val (.int pa), .val (.int pb), .val (.int qa), .unset, .unset, .unset, .unset, .unset, .unset, .unset, .unset, .unset, .unset, .unset] [(.int (2 : Int32)), (.int vd)]))
      refine own_by (fun t kk_ => XS.iand X0.here hx rfl (hb hby at_121) rfl kk_) ?_
      show OwnG p e below s _ _ _ (T0.setTop (mkF m 122 #[.val (.int va), .val (.int vb), .val (.int vc), .val (.int vd), .val (.int ve), .val (.int k1), .val (.int k2), .val (.int k3), .val (.int ds), .val (.int te), .val (.int pa), .val (.int pb), .val (.int qa), .unset, .unset, .unset, .unset, .unset, .unset, .unset, .unset, .unset, .unset, .unset] [(.int (vd &&& (2 : Int32)))]))
      by_cases hb122_3 : (vd &&& (2 : Int32)) = (0 : Int32)
      · refine own_by (fun t kk_ => XS.ifYes X0.here hx rfl (pc0 := 122) (pc' := 129) rfl (hb hby at_122) rfl ((if0 _ _).trans (teq hb122_3).1) (by decide) (by decide) kk_) ?_
        show OwnG p e below s _ _ _ (T0.setTop (mkF m 129 #[.val (.int va), .val (.int vb), .val (.int vc), .val (.int vd), .val (.int ve), .val (.int k1), .val (.int k2), .val (.int k3), .val (.int ds), .val (.int te), .val (.int pa), .val (.int pb), .val (.int qa), .unset, .unset, .unset, .unset, .unset, .unset, .unset, .unset, .unset, .unset, .unset] []))
        refine own_by (fun t kk_ => XS.iconst X0.here hx rfl (hb hby at_129) kk_) ?_
        show OwnG p e below s _ _ _ (T0.setTop (mkF m 130 #[.val (.int va), .val (.int vb), .val (.int vc), .val (.int vd), .val (.int ve), .val (.int k1), .val (.int k2), .val (.int k3), .val (.int ds), .val (.int te), .val (.int pa), .val (.int pb), .val (.int qa), .unset, .unset, .unset, .unset, .unset, .unset, .unset, .unset, .unset, .unset, .unset] [(.int (0 : Int32))]))
        exact own_f130 va vb vc vd ve k1 k2 k3 ds te pa pb qa (0 : Int32) X0 hx hby hml hret hlk hown hnm hZ hw e0 N0 Z0 SA hk1 hk2 hk3 za zb zc (Or.inl rfl)
      · refine own_by (fun t kk_ => XS.ifNo X0.here hx rfl (hb hby at_122) rfl ((if0 _ _).trans (feq hb122_3).1) kk_) ?_
        show OwnG p e below s _ _ _ (T0.setTop (mkF m 125 #[.val (.int va), .val (.int vb), .val (.int vc), .val (.int vd), .val (.int ve), .val (.int k1), .val (.int k2), .val (.int k3), .val (.int ds), .val (.int te), .val (.int pa), .val (.int pb), .val (.int qa), .unset, .unset, .unset, .unset, .unset, .unset, .unset, .unset, .unset, .unset, .unset] []))
        refine own_by (fun t kk_ => XS.iconst X0.here hx rfl (hb hby at_125) kk_) ?_
        show OwnG p e below s _ _ _ (T0.setTop (mkF m 126 #[.val (.int va), .val (.int vb), .val (.int vc), .val (.int vd), .val (.int ve), .val (.int k1), .val (.int k2), .val (.int k3), .val (.int ds), .val (.int te), .val (.int pa), .val (.int pb), .val (.int qa), .unset, .unset, .unset, .unset, .unset, .unset, .unset, .unset, .unset, .unset, .unset] [(.int (1 : Int32))]))
        refine own_by (fun t kk_ => XS.goto X0.here hx rfl (pc0 := 126) (pc' := 130) rfl (hb hby at_126) (by decide) (by decide) kk_) ?_
        show OwnG p e below s _ _ _ (T0.setTop (mkF m 130 #[.val (.int va), .val (.int vb), .val (.int vc), .val (.int vd), .val (.int ve), .val (.int k1), .val (.int k2), .val (.int k3), .val (.int ds), .val (.int te), .val (.int pa), .val (.int pb), .val (.int qa), .unset, .unset, .unset, .unset, .unset, .unset, .unset, .unset, .unset, .unset, .unset] [(.int (1 : Int32))]))
        exact own_f130 va vb vc vd ve k1 k2 k3 ds te pa pb qa (1 : Int32) X0 hx hby hml hret hlk hown hnm hZ hw e0 N0 Z0 SA hk1 hk2 hk3 za zb zc (Or.inr rfl)
    · refine own_by (fun t kk_ => XS.icmpYes X0.here hx rfl (pc0 := 116) (pc' := 129) rfl (hb hby at_116) rfl (flt hb116_2).2.2.2 (by decide) (by decide) kk_) ?_
      show OwnG p e below s _ _ _ (T0.setTop (mkF m 129 #[.val (.int va), .val (.int vb), .val (.int vc), .val (.int vd), .val (.int ve), .val (.int k1), .val (.int k2), .val (.int k3), .val (.int ds), .val (.int te), .val (.int pa), .val (.int pb), .val (.int qa), .unset, .unset, .unset, .unset, .unset, .unset, .unset, .unset, .unset, .unset, .unset] []))
      refine own_by (fun t kk_ => XS.iconst X0.here hx rfl (hb hby at_129) kk_) ?_
      show OwnG p e below s _ _ _ (T0.setTop (mkF m 130 #[.val (.int va), .val (.int vb), .val (.int vc), .val (.int vd), .val (.int ve), .val (.int k1), .val (.int k2), .val (.int k3), .val (.int ds), .val (.int te), .val (.int pa), .val (.int pb), .val (.int qa), .unset, .unset, .unset, .unset, .unset, .unset, .unset, .unset, .unset, .unset, .unset] [(.int (0 : Int32))]))
      exact own_f130 va vb vc vd ve k1 k2 k3 ds te pa pb qa (0 : Int32) X0 hx hby hml hret hlk hown hnm hZ hw e0 N0 Z0 SA hk1 hk2 hk3 za zb zc (Or.inl rfl)
  · refine own_by (fun t kk_ => XS.ifYes X0.here hx rfl (pc0 := 110) (pc' := 129) rfl (hb hby at_110) rfl ((if0 _ _).trans (feq hb110_1).2) (by decide) (by decide) kk_) ?_
    show OwnG p e below s _ _ _ (T0.setTop (mkF m 129 #[.val (.int va), .val (.int vb), .val (.int vc), .val (.int vd), .val (.int ve), .val (.int k1), .val (.int k2), .val (.int k3), .val (.int ds), .val (.int te), .val (.int pa), .val (.int pb), .val (.int qa), .unset, .unset, .unset, .unset, .unset, .unset, .unset, .unset, .unset, .unset, .unset] []))
    refine own_by (fun t kk_ => XS.iconst X0.here hx rfl (hb hby at_129) kk_) ?_
    show OwnG p e below s _ _ _ (T0.setTop (mkF m 130 #[.val (.int va), .val (.int vb), .val (.int vc), .val (.int vd), .val (.int ve), .val (.int k1), .val (.int k2), .val (.int k3), .val (.int ds), .val (.int te), .val (.int pa), .val (.int pb), .val (.int qa), .unset, .unset, .unset, .unset, .unset, .unset, .unset, .unset, .unset, .unset, .unset] [(.int (0 : Int32))]))
    exact own_f130 va vb vc vd ve k1 k2 k3 ds te pa pb qa (0 : Int32) X0 hx hby hml hret hlk hown hnm hZ hw e0 N0 Z0 SA hk1 hk2 hk3 za zb zc (Or.inl rfl)
set_option maxRecDepth 65536 in
set_option maxHeartbeats 40000000 in
theorem own_f83 {p : Program} {l : Launch} {e : Env} {s : State} {m : MethodId} {args : Array Value} {below : List Frame} {meth : Method} {c : Code} {T0 : State} {locs : List Loc} {Z : State} {a0 : Array Value} {h0 : Heap} {n0 : Nat} (va vb vc vd ve k1 k2 k3 ds te pa pb : Int32) (X0 : Stand p l e room_1 s m args below meth c T0 locs (0) (0)) (hx : p.tables.exec = Jvm.exec) (hby : c.code = code) (hml : c.maxLocals = 24) (hret : meth.sig.returnType = some .boolean) (hlk : meth.locks = false) (hown : s.vm.findClass "com/example/score_on_crawl/scoreoncrawl/engine/BreadthFirstSequenceHasNextPinLaw" = some m.cls) (hnm : meth.name = "law") (hZ : Z.Warmed39 s.vm) (hw : ∀ d ∈ tables_1, d.before a0 Z = true) (e0 : T0.heap = h0) (N0 : Fr n0 locs) (Z0 : n0 ≤ h0.size) (SA : Sta Z h0 "java/util/BitSet" "$assertionsDisabled" "Z" (.int (1 : Int32))) (hk1 : k1 = 0 ∨ k1 = 1 ∨ k1 = 2) (hk2 : own_z k2) (hk3 : k3 = k1 + k2) (za : own_z pa) (zb : own_z pb) :
    OwnG p e below s (fun v h L => v = some (.int (1 : Int32)) ∧ Fr n0 L) room_1.cells room_1.slots (T0.setTop (mkF m 83 #[.val (.int va), .val (.int vb), .val (.int vc), .val (.int vd), .val (.int ve), .val (.int k1), .val (.int k2), .val (.int k3), .val (.int ds), .val (.int te), .val (.int pa), .unset, .unset, .unset, .unset, .unset, .unset, .unset, .unset, .unset, .unset, .unset, .unset, .unset] [(.int pb)])) := by
  show OwnG p e below s _ _ _ (T0.setTop (mkF m 83 #[.val (.int va), .val (.int vb), .val (.int vc), .val (.int vd), .val (.int ve), .val (.int k1), .val (.int k2), .val (.int k3), .val (.int ds), .val (.int te), .val (.int pa), .unset, .unset, .unset, .unset, .unset, .unset, .unset, .unset, .unset, .unset, .unset, .unset, .unset] [(.int pb)]))
  refine own_by (fun t kk_ => XS.istore X0.here hx rfl (hb hby at_83) rfl (l' := #[.val (.int va), .val (.int vb), .val (.int vc), .val (.int vd), .val (.int ve), .val (.int k1), .val (.int k2), .val (.int k3), .val (.int ds), .val (.int te), .val (.int pa), .val (.int pb), .unset, .unset, .unset, .unset, .unset, .unset, .unset, .unset, .unset, .unset, .unset, .unset]) rfl kk_) ?_
  show OwnG p e below s _ _ _ (T0.setTop (mkF m 85 #[.val (.int va), .val (.int vb), .val (.int vc), .val (.int vd), .val (.int ve), .val (.int k1), .val (.int k2), .val (.int k3), .val (.int ds), .val (.int te), .val (.int pa), .val (.int pb), .unset, .unset, .unset, .unset, .unset, .unset, .unset, .unset, .unset, .unset, .unset, .unset] []))
  refine own_by (fun t kk_ => XS.iload X0.here hx rfl (hb hby at_85) rfl  kk_) ?_
  show OwnG p e below s _ _ _ (T0.setTop (mkF m 87 #[.val (.int va), .val (.int vb), .val (.int vc), .val (.int vd), .val (.int ve), .val (.int k1), .val (.int k2), .val (.int k3), .val (.int ds), .val (.int te), .val (.int pa), .val (.int pb), .unset, .unset, .unset, .unset, .unset, .unset, .unset, .unset, .unset, .unset, .unset, .unset] [(.int pa)]))
  by_cases hb87_1 : pa = (0 : Int32)
  · refine own_by (fun t kk_ => XS.ifNo X0.here hx rfl (hb hby at_87) rfl ((if0 _ _).trans (teq hb87_1).2) kk_) ?_
    show OwnG p e below s _ _ _ (T0.setTop (mkF m 90 #[.val (.int va), .val (.int vb), .val (.int vc), .val (.int vd), .val (.int ve), .val (.int k1), .val (.int k2), .val (.int k3), .val (.int ds), .val (.int te), .val (.int pa), .val (.int pb), .unset, .unset, .unset, .unset, .unset, .unset, .unset, .unset, .unset, .unset, .unset, .unset] []))
    refine own_by (fun t kk_ => XS.iload X0.here hx rfl (hb hby at_90) rfl  kk_) ?_
    show OwnG p e below s _ _ _ (T0.setTop (mkF m 92 #[.val (.int va), .val (.int vb), .val (.int vc), .val (.int vd), .val (.int ve), .val (.int k1), .val (.int k2), .val (.int k3), .val (.int ds), .val (.int te), .val (.int pa), .val (.int pb), .unset, .unset, .unset, .unset, .unset, .unset, .unset, .unset, .unset, .unset, .unset, .unset] [(.int k3)]))
    by_cases hb92_2 : (0 : Int32) < k3
    · refine own_by (fun t kk_ => XS.ifNo X0.here hx rfl (hb hby at_92) rfl ((if0 _ _).trans (tlt hb92_2).2.2.2) kk_) ?_
      show OwnG p e below s _ _ _ (T0.setTop (mkF m 95 #[.val (.int va), .val (.int vb), .val (.int vc), .val (.int vd), .val (.int ve), .val (.int k1), .val (.int k2), .val (.int k3), .val (.int ds), .val (.int te), .val (.int pa), .val (.int pb), .unset, .unset, .unset, .unset, .unset, .unset, .unset, .unset, .unset, .unset, .unset, .unset] []))
      refine own_by (fun t kk_ => XS.iloadN X0.here hx rfl (hb hby at_95) rfl  kk_) ?_
      show OwnG p e below s _ _ _ (T0.setTop (mkF m 96 #[.val (.int va), .val (.int vb), .val (.int vc), .val (.int vd), .val (.int ve), .val (.int k1), .val (.int k2), .val (.int k3), .val (.int ds), .val (.int te), .val (.int pa), .val (.int pb), .unset, .unset, .unset, .unset, .unset, .unset, .unset, .unset, .unset, .unset, .unset, .unset] [(.int vd)]))
      refine own_by (fun t kk_ => XS.iconst X0.here hx rfl (hb hby at_96) kk_) ?_
      show OwnG p e below s _ _ _ (T0.setTop (mkF m 97 #[.val (.int va), .val (.int vb), .val (.int vc), .val (.int vd), .val (.int ve), .val (.int k1), .val (.int k2), .val (.int k3), .val (.int ds), .val (.int te), .val (.int pa), .val (.int pb), .unset, .unset, .unset, .unset, .unset, .unset, .unset, .unset, .unset, .unset, .unset, .unset] [(.int (1 : Int32)), (.int vd)]))
      refine own_by (fun t kk_ => XS.iand X0.here hx rfl (hb hby at_97) rfl kk_) ?_
      show OwnG p e below s _ _ _ (T0.setTop (mkF m 98 #[.val (.int va), .val (.int vb), .val (.int vc), .val (.int vd), .val (.int ve), .val (.int k1), .val (.int k2), .val (.int k3), .val (.int ds), .val (.int te), .val (.int pa), .val (.int pb), .unset, .unset, .unset, .unset, .unset, .unset, .unset, .unset, .unset, .unset, .unset, .unset] [(.int (vd &&& (1 : Int32)))]))
      by_cases hb98_3 : (vd &&& (1 : Int32)) = (0 : Int32)
      · refine own_by (fun t kk_ => XS.ifYes X0.here hx rfl (pc0 := 98) (pc' := 105) rfl (hb hby at_98) rfl ((if0 _ _).trans (teq hb98_3).1) (by decide) (by decide) kk_) ?_
        show OwnG p e below s _ _ _ (T0.setTop (mkF m 105 #[.val (.int va), .val (.int vb), .val (.int vc), .val (.int vd), .val (.int ve), .val (.int k1), .val (.int k2), .val (.int k3), .val (.int ds), .val (.int te), .val (.int pa), .val (.int pb), .unset, .unset, .unset, .unset, .unset, .unset, .unset, .unset, .unset, .unset, .unset, .unset] []))
        refine own_by (fun t kk_ => XS.iconst X0.here hx rfl (hb hby at_105) kk_) ?_
        show OwnG p e below s _ _ _ (T0.setTop (mkF m 106 #[.val (.int va), .val (.int vb), .val (.int vc), .val (.int vd), .val (.int ve), .val (.int k1), .val (.int k2), .val (.int k3), .val (.int ds), .val (.int te), .val (.int pa), .val (.int pb), .unset, .unset, .unset, .unset, .unset, .unset, .unset, .unset, .unset, .unset, .unset, .unset] [(.int (0 : Int32))]))
        exact own_f106 va vb vc vd ve k1 k2 k3 ds te pa pb (0 : Int32) X0 hx hby hml hret hlk hown hnm hZ hw e0 N0 Z0 SA hk1 hk2 hk3 za zb (Or.inl rfl)
      · refine own_by (fun t kk_ => XS.ifNo X0.here hx rfl (hb hby at_98) rfl ((if0 _ _).trans (feq hb98_3).1) kk_) ?_
        show OwnG p e below s _ _ _ (T0.setTop (mkF m 101 #[.val (.int va), .val (.int vb), .val (.int vc), .val (.int vd), .val (.int ve), .val (.int k1), .val (.int k2), .val (.int k3), .val (.int ds), .val (.int te), .val (.int pa), .val (.int pb), .unset, .unset, .unset, .unset, .unset, .unset, .unset, .unset, .unset, .unset, .unset, .unset] []))
        refine own_by (fun t kk_ => XS.iconst X0.here hx rfl (hb hby at_101) kk_) ?_
        show OwnG p e below s _ _ _ (T0.setTop (mkF m 102 #[.val (.int va), .val (.int vb), .val (.int vc), .val (.int vd), .val (.int ve), .val (.int k1), .val (.int k2), .val (.int k3), .val (.int ds), .val (.int te), .val (.int pa), .val (.int pb), .unset, .unset, .unset, .unset, .unset, .unset, .unset, .unset, .unset, .unset, .unset, .unset] [(.int (1 : Int32))]))
        refine own_by (fun t kk_ => XS.goto X0.here hx rfl (pc0 := 102) (pc' := 106) rfl (hb hby at_102) (by decide) (by decide) kk_) ?_
        show OwnG p e below s _ _ _ (T0.setTop (mkF m 106 #[.val (.int va), .val (.int vb), .val (.int vc), .val (.int vd), .val (.int ve), .val (.int k1), .val (.int k2), .val (.int k3), .val (.int ds), .val (.int te), .val (.int pa), .val (.int pb), .unset, .unset, .unset, .unset, .unset, .unset, .unset, .unset, .unset, .unset, .unset, .unset] [(.int (1 : Int32))]))
        exact own_f106 va vb vc vd ve k1 k2 k3 ds te pa pb (1 : Int32) X0 hx hby hml hret hlk hown hnm hZ hw e0 N0 Z0 SA hk1 hk2 hk3 za zb (Or.inr rfl)
    · refine own_by (fun t kk_ => XS.ifYes X0.here hx rfl (pc0 := 92) (pc' := 105) rfl (hb hby at_92) rfl ((if0 _ _).trans (flt hb92_2).2.2.2) (by decide) (by decide) kk_) ?_
      show OwnG p e below s _ _ _ (T0.setTop (mkF m 105 #[.val (.int va), .val (.int vb), .val (.int vc), .val (.int vd), .val (.int ve), .val (.int k1), .val (.int k2), .val (.int k3), .val (.int ds), .val (.int te), .val (.int pa), .val (.int pb), .unset, .unset, .unset, .unset, .unset, .unset, .unset, .unset, .unset, .unset, .unset, .unset] []))
      refine own_by (fun t kk_ => XS.iconst X0.here hx rfl (hb hby at_105) kk_) ?_
      show OwnG p e below s _ _ _ (T0.setTop (mkF m 106 #[.val (.int va), .val (.int vb), .val (.int vc), .val (.int vd), .val (.int ve), .val (.int k1), .val (.int k2), .val (.int k3), .val (.int ds), .val (.int te), .val (.int pa), .val (.int pb), .unset, .unset, .unset, .unset, .unset, .unset, .unset, .unset, .unset, .unset, .unset, .unset] [(.int (0 : Int32))]))
      exact own_f106 va vb vc vd ve k1 k2 k3 ds te pa pb (0 : Int32) X0 hx hby hml hret hlk hown hnm hZ hw e0 N0 Z0 SA hk1 hk2 hk3 za zb (Or.inl rfl)
  · refine own_by (fun t kk_ => XS.ifYes X0.here hx rfl (pc0 := 87) (pc' := 105) rfl (hb hby at_87) rfl ((if0 _ _).trans (feq hb87_1).2) (by decide) (by decide) kk_) ?_
    show OwnG p e below s _ _ _ (T0.setTop (mkF m 105 #[.val (.int va), .val (.int vb), .val (.int vc), .val (.int vd), .val (.int ve), .val (.int k1), .val (.int k2), .val (.int k3), .val (.int ds), .val (.int te), .val (.int pa), .val (.int pb), .unset, .unset, .unset, .unset, .unset, .unset, .unset, .unset, .unset, .unset, .unset, .unset] []))
    refine own_by (fun t kk_ => XS.iconst X0.here hx rfl (hb hby at_105) kk_) ?_
    show OwnG p e below s _ _ _ (T0.setTop (mkF m 106 #[.val (.int va), .val (.int vb), .val (.int vc), .val (.int vd), .val (.int ve), .val (.int k1), .val (.int k2), .val (.int k3), .val (.int ds), .val (.int te), .val (.int pa), .val (.int pb), .unset, .unset, .unset, .unset, .unset, .unset, .unset, .unset, .unset, .unset, .unset, .unset] [(.int (0 : Int32))]))
    exact own_f106 va vb vc vd ve k1 k2 k3 ds te pa pb (0 : Int32) X0 hx hby hml hret hlk hown hnm hZ hw e0 N0 Z0 SA hk1 hk2 hk3 za zb (Or.inl rfl)
set_option maxRecDepth 65536 in
set_option maxHeartbeats 40000000 in
theorem own_f64 {p : Program} {l : Launch} {e : Env} {s : State} {m : MethodId} {args : Array Value} {below : List Frame} {meth : Method} {c : Code} {T0 : State} {locs : List Loc} {Z : State} {a0 : Array Value} {h0 : Heap} {n0 : Nat} (va vb vc vd ve k1 k2 k3 ds te pa : Int32) (X0 : Stand p l e room_1 s m args below meth c T0 locs (0) (0)) (hx : p.tables.exec = Jvm.exec) (hby : c.code = code) (hml : c.maxLocals = 24) (hret : meth.sig.returnType = some .boolean) (hlk : meth.locks = false) (hown : s.vm.findClass "com/example/score_on_crawl/scoreoncrawl/engine/BreadthFirstSequenceHasNextPinLaw" = some m.cls) (hnm : meth.name = "law") (hZ : Z.Warmed39 s.vm) (hw : ∀ d ∈ tables_1, d.before a0 Z = true) (e0 : T0.heap = h0) (N0 : Fr n0 locs) (Z0 : n0 ≤ h0.size) (SA : Sta Z h0 "java/util/BitSet" "$assertionsDisabled" "Z" (.int (1 : Int32))) (hk1 : k1 = 0 ∨ k1 = 1 ∨ k1 = 2) (hk2 : own_z k2) (hk3 : k3 = k1 + k2) (za : own_z pa) :
    OwnG p e below s (fun v h L => v = some (.int (1 : Int32)) ∧ Fr n0 L) room_1.cells room_1.slots (T0.setTop (mkF m 64 #[.val (.int va), .val (.int vb), .val (.int vc), .val (.int vd), .val (.int ve), .val (.int k1), .val (.int k2), .val (.int k3), .val (.int ds), .val (.int te), .unset, .unset, .unset, .unset, .unset, .unset, .unset, .unset, .unset, .unset, .unset, .unset, .unset, .unset] [(.int pa)])) := by
  show OwnG p e below s _ _ _ (T0.setTop (mkF m 64 #[.val (.int va), .val (.int vb), .val (.int vc), .val (.int vd), .val (.int ve), .val (.int k1), .val (.int k2), .val (.int k3), .val (.int ds), .val (.int te), .unset, .unset, .unset, .unset, .unset, .unset, .unset, .unset, .unset, .unset, .unset, .unset, .unset, .unset] [(.int pa)]))
  refine own_by (fun t kk_ => XS.istore X0.here hx rfl (hb hby at_64) rfl (l' := #[.val (.int va), .val (.int vb), .val (.int vc), .val (.int vd), .val (.int ve), .val (.int k1), .val (.int k2), .val (.int k3), .val (.int ds), .val (.int te), .val (.int pa), .unset, .unset, .unset, .unset, .unset, .unset, .unset, .unset, .unset, .unset, .unset, .unset, .unset]) rfl kk_) ?_
  show OwnG p e below s _ _ _ (T0.setTop (mkF m 66 #[.val (.int va), .val (.int vb), .val (.int vc), .val (.int vd), .val (.int ve), .val (.int k1), .val (.int k2), .val (.int k3), .val (.int ds), .val (.int te), .val (.int pa), .unset, .unset, .unset, .unset, .unset, .unset, .unset, .unset, .unset, .unset, .unset, .unset, .unset] []))
  refine own_by (fun t kk_ => XS.iload X0.here hx rfl (hb hby at_66) rfl  kk_) ?_
  show OwnG p e below s _ _ _ (T0.setTop (mkF m 68 #[.val (.int va), .val (.int vb), .val (.int vc), .val (.int vd), .val (.int ve), .val (.int k1), .val (.int k2), .val (.int k3), .val (.int ds), .val (.int te), .val (.int pa), .unset, .unset, .unset, .unset, .unset, .unset, .unset, .unset, .unset, .unset, .unset, .unset, .unset] [(.int k1)]))
  refine own_by (fun t kk_ => XS.iconst X0.here hx rfl (hb hby at_68) kk_) ?_
  show OwnG p e below s _ _ _ (T0.setTop (mkF m 69 #[.val (.int va), .val (.int vb), .val (.int vc), .val (.int vd), .val (.int ve), .val (.int k1), .val (.int k2), .val (.int k3), .val (.int ds), .val (.int te), .val (.int pa), .unset, .unset, .unset, .unset, .unset, .unset, .unset, .unset, .unset, .unset, .unset, .unset, .unset] [(.int (1 : Int32)), (.int k1)]))
  by_cases hb69_1 : (1 : Int32) < k1
  · refine own_by (fun t kk_ => XS.icmpNo X0.here hx rfl (hb hby at_69) rfl (tlt hb69_1).2.2.2 kk_) ?_
    show OwnG p e below s _ _ _ (T0.setTop (mkF m 72 #[.val (.int va), .val (.int vb), .val (.int vc), .val (.int vd), .val (.int ve), .val (.int k1), .val (.int k2), .val (.int k3), .val (.int ds), .val (.int te), .val (.int pa), .unset, .unset, .unset, .unset, .unset, .unset, .unset, .unset, .unset, .unset, .unset, .unset, .unset] []))
    refine own_by (fun t kk_ => XS.iloadN X0.here hx rfl (hb hby at_72) rfl  kk_) ?_
    show OwnG p e below s _ _ _ (T0.setTop (mkF m 73 #[.val (.int va), .val (.int vb), .val (.int vc), .val (.int vd), .val (.int ve), .val (.int k1), .val (.int k2), .val (.int k3), .val (.int ds), .val (.int te), .val (.int pa), .unset, .unset, .unset, .unset, .unset, .unset, .unset, .unset, .unset, .unset, .unset, .unset, .unset] [(.int vc)]))
    refine own_by (fun t kk_ => XS.iconst X0.here hx rfl (hb hby at_73) kk_) ?_
    show OwnG p e below s _ _ _ (T0.setTop (mkF m 74 #[.val (.int va), .val (.int vb), .val (.int vc), .val (.int vd), .val (.int ve), .val (.int k1), .val (.int k2), .val (.int k3), .val (.int ds), .val (.int te), .val (.int pa), .unset, .unset, .unset, .unset, .unset, .unset, .unset, .unset, .unset, .unset, .unset, .unset, .unset] [(.int (2 : Int32)), (.int vc)]))
    refine own_by (fun t kk_ => XS.iand X0.here hx rfl (hb hby at_74) rfl kk_) ?_
    show OwnG p e below s _ _ _ (T0.setTop (mkF m 75 #[.val (.int va), .val (.int vb), .val (.int vc), .val (.int vd), .val (.int ve), .val (.int k1), .val (.int k2), .val (.int k3), .val (.int ds), .val (.int te), .val (.int pa), .unset, .unset, .unset, .unset, .unset, .unset, .unset, .unset, .unset, .unset, .unset, .unset, .unset] [(.int (vc &&& (2 : Int32)))]))
    by_cases hb75_2 : (vc &&& (2 : Int32)) = (0 : Int32)
    · refine own_by (fun t kk_ => XS.ifYes X0.here hx rfl (pc0 := 75) (pc' := 82) rfl (hb hby at_75) rfl ((if0 _ _).trans (teq hb75_2).1) (by decide) (by decide) kk_) ?_
      show OwnG p e below s _ _ _ (T0.setTop (mkF m 82 #[.val (.int va), .val (.int vb), .val (.int vc), .val (.int vd), .val (.int ve), .val (.int k1), .val (.int k2), .val (.int k3), .val (.int ds), .val (.int te), .val (.int pa), .unset, .unset, .unset, .unset, .unset, .unset, .unset, .unset, .unset, .unset, .unset, .unset, .unset] []))
      refine own_by (fun t kk_ => XS.iconst X0.here hx rfl (hb hby at_82) kk_) ?_
      show OwnG p e below s _ _ _ (T0.setTop (mkF m 83 #[.val (.int va), .val (.int vb), .val (.int vc), .val (.int vd), .val (.int ve), .val (.int k1), .val (.int k2), .val (.int k3), .val (.int ds), .val (.int te), .val (.int pa), .unset, .unset, .unset, .unset, .unset, .unset, .unset, .unset, .unset, .unset, .unset, .unset, .unset] [(.int (0 : Int32))]))
      exact own_f83 va vb vc vd ve k1 k2 k3 ds te pa (0 : Int32) X0 hx hby hml hret hlk hown hnm hZ hw e0 N0 Z0 SA hk1 hk2 hk3 za (Or.inl rfl)
    · refine own_by (fun t kk_ => XS.ifNo X0.here hx rfl (hb hby at_75) rfl ((if0 _ _).trans (feq hb75_2).1) kk_) ?_
      show OwnG p e below s _ _ _ (T0.setTop (mkF m 78 #[.val (.int va), .val (.int vb), .val (.int vc), .val (.int vd), .val (.int ve), .val (.int k1), .val (.int k2), .val (.int k3), .val (.int ds), .val (.int te), .val (.int pa), .unset, .unset, .unset, .unset, .unset, .unset, .unset, .unset, .unset, .unset, .unset, .unset, .unset] []))
      refine own_by (fun t kk_ => XS.iconst X0.here hx rfl (hb hby at_78) kk_) ?_
      show OwnG p e below s _ _ _ (T0.setTop (mkF m 79 #[.val (.int va), .val (.int vb), .val (.int vc), .val (.int vd), .val (.int ve), .val (.int k1), .val (.int k2), .val (.int k3), .val (.int ds), .val (.int te), .val (.int pa), .unset, .unset, .unset, .unset, .unset, .unset, .unset, .unset, .unset, .unset, .unset, .unset, .unset] [(.int (1 : Int32))]))
      refine own_by (fun t kk_ => XS.goto X0.here hx rfl (pc0 := 79) (pc' := 83) rfl (hb hby at_79) (by decide) (by decide) kk_) ?_
      show OwnG p e below s _ _ _ (T0.setTop (mkF m 83 #[.val (.int va), .val (.int vb), .val (.int vc), .val (.int vd), .val (.int ve), .val (.int k1), .val (.int k2), .val (.int k3), .val (.int ds), .val (.int te), .val (.int pa), .unset, .unset, .unset, .unset, .unset, .unset, .unset, .unset, .unset, .unset, .unset, .unset, .unset] [(.int (1 : Int32))]))
      exact own_f83 va vb vc vd ve k1 k2 k3 ds te pa (1 : Int32) X0 hx hby hml hret hlk hown hnm hZ hw e0 N0 Z0 SA hk1 hk2 hk3 za (Or.inr rfl)
  · refine own_by (fun t kk_ => XS.icmpYes X0.here hx rfl (pc0 := 69) (pc' := 82) rfl (hb hby at_69) rfl (flt hb69_1).2.2.2 (by decide) (by decide) kk_) ?_
    show OwnG p e below s _ _ _ (T0.setTop (mkF m 82 #[.val (.int va), .val (.int vb), .val (.int vc), .val (.int vd), .val (.int ve), .val (.int k1), .val (.int k2), .val (.int k3), .val (.int ds), .val (.int te), .val (.int pa), .unset, .unset, .unset, .unset, .unset, .unset, .unset, .unset, .unset, .unset, .unset, .unset, .unset] []))
    refine own_by (fun t kk_ => XS.iconst X0.here hx rfl (hb hby at_82) kk_) ?_
    show OwnG p e below s _ _ _ (T0.setTop (mkF m 83 #[.val (.int va), .val (.int vb), .val (.int vc), .val (.int vd), .val (.int ve), .val (.int k1), .val (.int k2), .val (.int k3), .val (.int ds), .val (.int te), .val (.int pa), .unset, .unset, .unset, .unset, .unset, .unset, .unset, .unset, .unset, .unset, .unset, .unset, .unset] [(.int (0 : Int32))]))
    exact own_f83 va vb vc vd ve k1 k2 k3 ds te pa (0 : Int32) X0 hx hby hml hret hlk hown hnm hZ hw e0 N0 Z0 SA hk1 hk2 hk3 za (Or.inl rfl)
set_option maxRecDepth 65536 in
set_option maxHeartbeats 40000000 in
theorem own_f46 {p : Program} {l : Launch} {e : Env} {s : State} {m : MethodId} {args : Array Value} {below : List Frame} {meth : Method} {c : Code} {T0 : State} {locs : List Loc} {Z : State} {a0 : Array Value} {h0 : Heap} {n0 : Nat} (va vb vc vd ve k1 k2 k3 ds te : Int32) (X0 : Stand p l e room_1 s m args below meth c T0 locs (0) (0)) (hx : p.tables.exec = Jvm.exec) (hby : c.code = code) (hml : c.maxLocals = 24) (hret : meth.sig.returnType = some .boolean) (hlk : meth.locks = false) (hown : s.vm.findClass "com/example/score_on_crawl/scoreoncrawl/engine/BreadthFirstSequenceHasNextPinLaw" = some m.cls) (hnm : meth.name = "law") (hZ : Z.Warmed39 s.vm) (hw : ∀ d ∈ tables_1, d.before a0 Z = true) (e0 : T0.heap = h0) (N0 : Fr n0 locs) (Z0 : n0 ≤ h0.size) (SA : Sta Z h0 "java/util/BitSet" "$assertionsDisabled" "Z" (.int (1 : Int32))) (hk1 : k1 = 0 ∨ k1 = 1 ∨ k1 = 2) (hk2 : own_z k2) (hk3 : k3 = k1 + k2) :
    OwnG p e below s (fun v h L => v = some (.int (1 : Int32)) ∧ Fr n0 L) room_1.cells room_1.slots (T0.setTop (mkF m 46 #[.val (.int va), .val (.int vb), .val (.int vc), .val (.int vd), .val (.int ve), .val (.int k1), .val (.int k2), .val (.int k3), .val (.int ds), .unset, .unset, .unset, .unset, .unset, .unset, .unset, .unset, .unset, .unset, .unset, .unset, .unset, .unset, .unset] [(.int te)])) := by
  show OwnG p e below s _ _ _ (T0.setTop (mkF m 46 #[.val (.int va), .val (.int vb), .val (.int vc), .val (.int vd), .val (.int ve), .val (.int k1), .val (.int k2), .val (.int k3), .val (.int ds), .unset, .unset, .unset, .unset, .unset, .unset, .unset, .unset, .unset, .unset, .unset, .unset, .unset, .unset, .unset] [(.int te)]))
  refine own_by (fun t kk_ => XS.istore X0.here hx rfl (hb hby at_46) rfl (l' := #[.val (.int va), .val (.int vb), .val (.int vc), .val (.int vd), .val (.int ve), .val (.int k1), .val (.int k2), .val (.int k3), .val (.int ds), .val (.int te), .unset, .unset, .unset, .unset, .unset, .unset, .unset, .unset, .unset, .unset, .unset, .unset, .unset, .unset]) rfl kk_) ?_
  show OwnG p e below s _ _ _ (T0.setTop (mkF m 48 #[.val (.int va), .val (.int vb), .val (.int vc), .val (.int vd), .val (.int ve), .val (.int k1), .val (.int k2), .val (.int k3), .val (.int ds), .val (.int te), .unset, .unset, .unset, .unset, .unset, .unset, .unset, .unset, .unset, .unset, .unset, .unset, .unset, .unset] []))
  refine own_by (fun t kk_ => XS.iload X0.here hx rfl (hb hby at_48) rfl  kk_) ?_
  show OwnG p e below s _ _ _ (T0.setTop (mkF m 50 #[.val (.int va), .val (.int vb), .val (.int vc), .val (.int vd), .val (.int ve), .val (.int k1), .val (.int k2), .val (.int k3), .val (.int ds), .val (.int te), .unset, .unset, .unset, .unset, .unset, .unset, .unset, .unset, .unset, .unset, .unset, .unset, .unset, .unset] [(.int k1)]))
  by_cases hb50_1 : (0 : Int32) < k1
  · refine own_by (fun t kk_ => XS.ifNo X0.here hx rfl (hb hby at_50) rfl ((if0 _ _).trans (tlt hb50_1).2.2.2) kk_) ?_
    show OwnG p e below s _ _ _ (T0.setTop (mkF m 53 #[.val (.int va), .val (.int vb), .val (.int vc), .val (.int vd), .val (.int ve), .val (.int k1), .val (.int k2), .val (.int k3), .val (.int ds), .val (.int te), .unset, .unset, .unset, .unset, .unset, .unset, .unset, .unset, .unset, .unset, .unset, .unset, .unset, .unset] []))
    refine own_by (fun t kk_ => XS.iloadN X0.here hx rfl (hb hby at_53) rfl  kk_) ?_
    show OwnG p e below s _ _ _ (T0.setTop (mkF m 54 #[.val (.int va), .val (.int vb), .val (.int vc), .val (.int vd), .val (.int ve), .val (.int k1), .val (.int k2), .val (.int k3), .val (.int ds), .val (.int te), .unset, .unset, .unset, .unset, .unset, .unset, .unset, .unset, .unset, .unset, .unset, .unset, .unset, .unset] [(.int vc)]))
    refine own_by (fun t kk_ => XS.iconst X0.here hx rfl (hb hby at_54) kk_) ?_
    show OwnG p e below s _ _ _ (T0.setTop (mkF m 55 #[.val (.int va), .val (.int vb), .val (.int vc), .val (.int vd), .val (.int ve), .val (.int k1), .val (.int k2), .val (.int k3), .val (.int ds), .val (.int te), .unset, .unset, .unset, .unset, .unset, .unset, .unset, .unset, .unset, .unset, .unset, .unset, .unset, .unset] [(.int (1 : Int32)), (.int vc)]))
    refine own_by (fun t kk_ => XS.iand X0.here hx rfl (hb hby at_55) rfl kk_) ?_
    show OwnG p e below s _ _ _ (T0.setTop (mkF m 56 #[.val (.int va), .val (.int vb), .val (.int vc), .val (.int vd), .val (.int ve), .val (.int k1), .val (.int k2), .val (.int k3), .val (.int ds), .val (.int te), .unset, .unset, .unset, .unset, .unset, .unset, .unset, .unset, .unset, .unset, .unset, .unset, .unset, .unset] [(.int (vc &&& (1 : Int32)))]))
    by_cases hb56_2 : (vc &&& (1 : Int32)) = (0 : Int32)
    · refine own_by (fun t kk_ => XS.ifYes X0.here hx rfl (pc0 := 56) (pc' := 63) rfl (hb hby at_56) rfl ((if0 _ _).trans (teq hb56_2).1) (by decide) (by decide) kk_) ?_
      show OwnG p e below s _ _ _ (T0.setTop (mkF m 63 #[.val (.int va), .val (.int vb), .val (.int vc), .val (.int vd), .val (.int ve), .val (.int k1), .val (.int k2), .val (.int k3), .val (.int ds), .val (.int te), .unset, .unset, .unset, .unset, .unset, .unset, .unset, .unset, .unset, .unset, .unset, .unset, .unset, .unset] []))
      refine own_by (fun t kk_ => XS.iconst X0.here hx rfl (hb hby at_63) kk_) ?_
      show OwnG p e below s _ _ _ (T0.setTop (mkF m 64 #[.val (.int va), .val (.int vb), .val (.int vc), .val (.int vd), .val (.int ve), .val (.int k1), .val (.int k2), .val (.int k3), .val (.int ds), .val (.int te), .unset, .unset, .unset, .unset, .unset, .unset, .unset, .unset, .unset, .unset, .unset, .unset, .unset, .unset] [(.int (0 : Int32))]))
      exact own_f64 va vb vc vd ve k1 k2 k3 ds te (0 : Int32) X0 hx hby hml hret hlk hown hnm hZ hw e0 N0 Z0 SA hk1 hk2 hk3 (Or.inl rfl)
    · refine own_by (fun t kk_ => XS.ifNo X0.here hx rfl (hb hby at_56) rfl ((if0 _ _).trans (feq hb56_2).1) kk_) ?_
      show OwnG p e below s _ _ _ (T0.setTop (mkF m 59 #[.val (.int va), .val (.int vb), .val (.int vc), .val (.int vd), .val (.int ve), .val (.int k1), .val (.int k2), .val (.int k3), .val (.int ds), .val (.int te), .unset, .unset, .unset, .unset, .unset, .unset, .unset, .unset, .unset, .unset, .unset, .unset, .unset, .unset] []))
      refine own_by (fun t kk_ => XS.iconst X0.here hx rfl (hb hby at_59) kk_) ?_
      show OwnG p e below s _ _ _ (T0.setTop (mkF m 60 #[.val (.int va), .val (.int vb), .val (.int vc), .val (.int vd), .val (.int ve), .val (.int k1), .val (.int k2), .val (.int k3), .val (.int ds), .val (.int te), .unset, .unset, .unset, .unset, .unset, .unset, .unset, .unset, .unset, .unset, .unset, .unset, .unset, .unset] [(.int (1 : Int32))]))
      refine own_by (fun t kk_ => XS.goto X0.here hx rfl (pc0 := 60) (pc' := 64) rfl (hb hby at_60) (by decide) (by decide) kk_) ?_
      show OwnG p e below s _ _ _ (T0.setTop (mkF m 64 #[.val (.int va), .val (.int vb), .val (.int vc), .val (.int vd), .val (.int ve), .val (.int k1), .val (.int k2), .val (.int k3), .val (.int ds), .val (.int te), .unset, .unset, .unset, .unset, .unset, .unset, .unset, .unset, .unset, .unset, .unset, .unset, .unset, .unset] [(.int (1 : Int32))]))
      exact own_f64 va vb vc vd ve k1 k2 k3 ds te (1 : Int32) X0 hx hby hml hret hlk hown hnm hZ hw e0 N0 Z0 SA hk1 hk2 hk3 (Or.inr rfl)
  · refine own_by (fun t kk_ => XS.ifYes X0.here hx rfl (pc0 := 50) (pc' := 63) rfl (hb hby at_50) rfl ((if0 _ _).trans (flt hb50_1).2.2.2) (by decide) (by decide) kk_) ?_
    show OwnG p e below s _ _ _ (T0.setTop (mkF m 63 #[.val (.int va), .val (.int vb), .val (.int vc), .val (.int vd), .val (.int ve), .val (.int k1), .val (.int k2), .val (.int k3), .val (.int ds), .val (.int te), .unset, .unset, .unset, .unset, .unset, .unset, .unset, .unset, .unset, .unset, .unset, .unset, .unset, .unset] []))
    refine own_by (fun t kk_ => XS.iconst X0.here hx rfl (hb hby at_63) kk_) ?_
    show OwnG p e below s _ _ _ (T0.setTop (mkF m 64 #[.val (.int va), .val (.int vb), .val (.int vc), .val (.int vd), .val (.int ve), .val (.int k1), .val (.int k2), .val (.int k3), .val (.int ds), .val (.int te), .unset, .unset, .unset, .unset, .unset, .unset, .unset, .unset, .unset, .unset, .unset, .unset, .unset, .unset] [(.int (0 : Int32))]))
    exact own_f64 va vb vc vd ve k1 k2 k3 ds te (0 : Int32) X0 hx hby hml hret hlk hown hnm hZ hw e0 N0 Z0 SA hk1 hk2 hk3 (Or.inl rfl)
set_option maxRecDepth 65536 in
set_option maxHeartbeats 40000000 in
theorem own_f32 {p : Program} {l : Launch} {e : Env} {s : State} {m : MethodId} {args : Array Value} {below : List Frame} {meth : Method} {c : Code} {T0 : State} {locs : List Loc} {Z : State} {a0 : Array Value} {h0 : Heap} {n0 : Nat} (va vb vc vd ve k1 k2 k3 ds : Int32) (X0 : Stand p l e room_1 s m args below meth c T0 locs (0) (0)) (hx : p.tables.exec = Jvm.exec) (hby : c.code = code) (hml : c.maxLocals = 24) (hret : meth.sig.returnType = some .boolean) (hlk : meth.locks = false) (hown : s.vm.findClass "com/example/score_on_crawl/scoreoncrawl/engine/BreadthFirstSequenceHasNextPinLaw" = some m.cls) (hnm : meth.name = "law") (hZ : Z.Warmed39 s.vm) (hw : ∀ d ∈ tables_1, d.before a0 Z = true) (e0 : T0.heap = h0) (N0 : Fr n0 locs) (Z0 : n0 ≤ h0.size) (SA : Sta Z h0 "java/util/BitSet" "$assertionsDisabled" "Z" (.int (1 : Int32))) (hk1 : k1 = 0 ∨ k1 = 1 ∨ k1 = 2) (hk2 : own_z k2) (hk3 : k3 = k1 + k2) :
    OwnG p e below s (fun v h L => v = some (.int (1 : Int32)) ∧ Fr n0 L) room_1.cells room_1.slots (T0.setTop (mkF m 32 #[.val (.int va), .val (.int vb), .val (.int vc), .val (.int vd), .val (.int ve), .val (.int k1), .val (.int k2), .val (.int k3), .unset, .unset, .unset, .unset, .unset, .unset, .unset, .unset, .unset, .unset, .unset, .unset, .unset, .unset, .unset, .unset] [(.int ds)])) := by
  show OwnG p e below s _ _ _ (T0.setTop (mkF m 32 #[.val (.int va), .val (.int vb), .val (.int vc), .val (.int vd), .val (.int ve), .val (.int k1), .val (.int k2), .val (.int k3), .unset, .unset, .unset, .unset, .unset, .unset, .unset, .unset, .unset, .unset, .unset, .unset, .unset, .unset, .unset, .unset] [(.int ds)]))
  refine own_by (fun t kk_ => XS.istore X0.here hx rfl (hb hby at_32) rfl (l' := #[.val (.int va), .val (.int vb), .val (.int vc), .val (.int vd), .val (.int ve), .val (.int k1), .val (.int k2), .val (.int k3), .val (.int ds), .unset, .unset, .unset, .unset, .unset, .unset, .unset, .unset, .unset, .unset, .unset, .unset, .unset, .unset, .unset]) rfl kk_) ?_
  show OwnG p e below s _ _ _ (T0.setTop (mkF m 34 #[.val (.int va), .val (.int vb), .val (.int vc), .val (.int vd), .val (.int ve), .val (.int k1), .val (.int k2), .val (.int k3), .val (.int ds), .unset, .unset, .unset, .unset, .unset, .unset, .unset, .unset, .unset, .unset, .unset, .unset, .unset, .unset, .unset] []))
  refine own_by (fun t kk_ => XS.iload X0.here hx rfl (hb hby at_34) rfl  kk_) ?_
  show OwnG p e below s _ _ _ (T0.setTop (mkF m 36 #[.val (.int va), .val (.int vb), .val (.int vc), .val (.int vd), .val (.int ve), .val (.int k1), .val (.int k2), .val (.int k3), .val (.int ds), .unset, .unset, .unset, .unset, .unset, .unset, .unset, .unset, .unset, .unset, .unset, .unset, .unset, .unset, .unset] [(.int ve)]))
  refine own_by (fun t kk_ => XS.iconst X0.here hx rfl (hb hby at_36) kk_) ?_
  show OwnG p e below s _ _ _ (T0.setTop (mkF m 37 #[.val (.int va), .val (.int vb), .val (.int vc), .val (.int vd), .val (.int ve), .val (.int k1), .val (.int k2), .val (.int k3), .val (.int ds), .unset, .unset, .unset, .unset, .unset, .unset, .unset, .unset, .unset, .unset, .unset, .unset, .unset, .unset, .unset] [(.int (2 : Int32)), (.int ve)]))
  refine own_by (fun t kk_ => XS.iand X0.here hx rfl (hb hby at_37) rfl kk_) ?_
  show OwnG p e below s _ _ _ (T0.setTop (mkF m 38 #[.val (.int va), .val (.int vb), .val (.int vc), .val (.int vd), .val (.int ve), .val (.int k1), .val (.int k2), .val (.int k3), .val (.int ds), .unset, .unset, .unset, .unset, .unset, .unset, .unset, .unset, .unset, .unset, .unset, .unset, .unset, .unset, .unset] [(.int (ve &&& (2 : Int32)))]))
  by_cases hb38_1 : (ve &&& (2 : Int32)) = (0 : Int32)
  · refine own_by (fun t kk_ => XS.ifYes X0.here hx rfl (pc0 := 38) (pc' := 45) rfl (hb hby at_38) rfl ((if0 _ _).trans (teq hb38_1).1) (by decide) (by decide) kk_) ?_
    show OwnG p e below s _ _ _ (T0.setTop (mkF m 45 #[.val (.int va), .val (.int vb), .val (.int vc), .val (.int vd), .val (.int ve), .val (.int k1), .val (.int k2), .val (.int k3), .val (.int ds), .unset, .unset, .unset, .unset, .unset, .unset, .unset, .unset, .unset, .unset, .unset, .unset, .unset, .unset, .unset] []))
    refine own_by (fun t kk_ => XS.iconst X0.here hx rfl (hb hby at_45) kk_) ?_
    show OwnG p e below s _ _ _ (T0.setTop (mkF m 46 #[.val (.int va), .val (.int vb), .val (.int vc), .val (.int vd), .val (.int ve), .val (.int k1), .val (.int k2), .val (.int k3), .val (.int ds), .unset, .unset, .unset, .unset, .unset, .unset, .unset, .unset, .unset, .unset, .unset, .unset, .unset, .unset, .unset] [(.int (0 : Int32))]))
    exact own_f46 va vb vc vd ve k1 k2 k3 ds (0 : Int32) X0 hx hby hml hret hlk hown hnm hZ hw e0 N0 Z0 SA hk1 hk2 hk3 
  · refine own_by (fun t kk_ => XS.ifNo X0.here hx rfl (hb hby at_38) rfl ((if0 _ _).trans (feq hb38_1).1) kk_) ?_
    show OwnG p e below s _ _ _ (T0.setTop (mkF m 41 #[.val (.int va), .val (.int vb), .val (.int vc), .val (.int vd), .val (.int ve), .val (.int k1), .val (.int k2), .val (.int k3), .val (.int ds), .unset, .unset, .unset, .unset, .unset, .unset, .unset, .unset, .unset, .unset, .unset, .unset, .unset, .unset, .unset] []))
    refine own_by (fun t kk_ => XS.iconst X0.here hx rfl (hb hby at_41) kk_) ?_
    show OwnG p e below s _ _ _ (T0.setTop (mkF m 42 #[.val (.int va), .val (.int vb), .val (.int vc), .val (.int vd), .val (.int ve), .val (.int k1), .val (.int k2), .val (.int k3), .val (.int ds), .unset, .unset, .unset, .unset, .unset, .unset, .unset, .unset, .unset, .unset, .unset, .unset, .unset, .unset, .unset] [(.int (1 : Int32))]))
    refine own_by (fun t kk_ => XS.goto X0.here hx rfl (pc0 := 42) (pc' := 46) rfl (hb hby at_42) (by decide) (by decide) kk_) ?_
    show OwnG p e below s _ _ _ (T0.setTop (mkF m 46 #[.val (.int va), .val (.int vb), .val (.int vc), .val (.int vd), .val (.int ve), .val (.int k1), .val (.int k2), .val (.int k3), .val (.int ds), .unset, .unset, .unset, .unset, .unset, .unset, .unset, .unset, .unset, .unset, .unset, .unset, .unset, .unset, .unset] [(.int (1 : Int32))]))
    exact own_f46 va vb vc vd ve k1 k2 k3 ds (1 : Int32) X0 hx hby hml hret hlk hown hnm hZ hw e0 N0 Z0 SA hk1 hk2 hk3 
theorem ef_0 (m : MethodId) (x0 : Int32) (x1 : Int32) (x2 : Int32) (x3 : Int32) (x4 : Int32) : entryFrame m #[(.int x0), (.int x1), (.int x2), (.int x3), (.int x4)] maxLocals = mkF m 0 #[.val (.int x0), .val (.int x1), .val (.int x2), .val (.int x3), .val (.int x4), .unset, .unset, .unset, .unset, .unset, .unset, .unset, .unset, .unset, .unset, .unset, .unset, .unset, .unset, .unset, .unset, .unset, .unset, .unset] [] := by first | (simp [entryFrame, mkF, argsToLocals, Value.category, maxLocals]; done) | rfl
def Q0 (Z : State) (va vb vc vd ve : Int32) (h0 : Heap) (n0 : Nat) (v : Option Value) (h : Heap) (L : List Loc) : Prop := v = some (.int (1 : Int32)) ∧ Fr n0 L
set_option maxRecDepth 65536 in
set_option maxHeartbeats 40000000 in
theorem rm0 (l : Launch) (Z : State) (a0 : Array Value) (hw : ∀ d ∈ tables_1, d.before a0 Z = true) (ws : List Jvm.Cond) (va vb vc vd ve : Int32) (h0 : Heap) (n0 : Nat) (Z0 : n0 ≤ h0.size) (SA : Sta Z h0 "java/util/BitSet" "$assertionsDisabled" "Z" (.int (1 : Int32))) :
    MetFree l x (head1 (Jvm.Cond.code x code maxLocals ret :: ws) room_1) (fun aa_ U => aa_ = #[(.int va), (.int vb), (.int vc), (.int vd), (.int ve)] ∧ Z.Warmed39 U.vm ∧ U.heap = h0) (fun _ _ _ _ _ => True) (fun _ U o U' => ∃ v L, o = .returned v ∧ Q0 Z va vb vc vd ve h0 n0 v U'.heap L ∧ FrameEnd U o U' L room_1.cells room_1.slots) := by
  refine own_met (Q := fun v h L => Q0 Z va vb vc vd ve h0 n0 v h L) (plainFor_of_name pn_5) ?_
  intro p e s m below meth c s₁ hx hby hml hret hlk hown hnm hZ X0 e0
  have N0 := Fr.nil n0
  rw [ef_0 m va vb vc vd ve]
  show OwnG p e below s _ _ _ (s₁.setTop (mkF m 0 #[.val (.int va), .val (.int vb), .val (.int vc), .val (.int vd), .val (.int ve), .unset, .unset, .unset, .unset, .unset, .unset, .unset, .unset, .unset, .unset, .unset, .unset, .unset, .unset, .unset, .unset, .unset, .unset, .unset] []))
  refine own_by (fun t kk_ => XS.iloadN X0.here hx rfl (hb hby at_0) rfl  kk_) ?_
  show OwnG p e below s _ _ _ (s₁.setTop (mkF m 1 #[.val (.int va), .val (.int vb), .val (.int vc), .val (.int vd), .val (.int ve), .unset, .unset, .unset, .unset, .unset, .unset, .unset, .unset, .unset, .unset, .unset, .unset, .unset, .unset, .unset, .unset, .unset, .unset, .unset] [(.int va)]))
  refine own_by (fun t kk_ => X0.ldcInt hx hown (mvT hZ (hw _ (List.mem_of_getElem? (i := 0) rfl))) (g := (mkF m 1 #[.val (.int va), .val (.int vb), .val (.int vc), .val (.int vd), .val (.int ve), .unset, .unset, .unset, .unset, .unset, .unset, .unset, .unset, .unset, .unset, .unset, .unset, .unset, .unset, .unset, .unset, .unset, .unset, .unset] [(.int va)])) rfl (hb hby at_1) _ kk_) ?_
  show OwnG p e below s _ _ _ (s₁.setTop (mkF m 3 #[.val (.int va), .val (.int vb), .val (.int vc), .val (.int vd), .val (.int ve), .unset, .unset, .unset, .unset, .unset, .unset, .unset, .unset, .unset, .unset, .unset, .unset, .unset, .unset, .unset, .unset, .unset, .unset, .unset] [(.int (2147483647 : Int32)), (.int va)]))
  refine own_by (fun t kk_ => XS.iand X0.here hx rfl (hb hby at_3) rfl kk_) ?_
  show OwnG p e below s _ _ _ (s₁.setTop (mkF m 4 #[.val (.int va), .val (.int vb), .val (.int vc), .val (.int vd), .val (.int ve), .unset, .unset, .unset, .unset, .unset, .unset, .unset, .unset, .unset, .unset, .unset, .unset, .unset, .unset, .unset, .unset, .unset, .unset, .unset] [(.int (va &&& (2147483647 : Int32)))]))
  refine own_by (fun t kk_ => XS.iconst X0.here hx rfl (hb hby at_4) kk_) ?_
  show OwnG p e below s _ _ _ (s₁.setTop (mkF m 5 #[.val (.int va), .val (.int vb), .val (.int vc), .val (.int vd), .val (.int ve), .unset, .unset, .unset, .unset, .unset, .unset, .unset, .unset, .unset, .unset, .unset, .unset, .unset, .unset, .unset, .unset, .unset, .unset, .unset] [(.int (3 : Int32)), (.int (va &&& (2147483647 : Int32)))]))
  refine own_by (fun t kk_ => XS.irem X0.here hx rfl (hb hby at_5) rfl (by decide) kk_) ?_
  show OwnG p e below s _ _ _ (s₁.setTop (mkF m 6 #[.val (.int va), .val (.int vb), .val (.int vc), .val (.int vd), .val (.int ve), .unset, .unset, .unset, .unset, .unset, .unset, .unset, .unset, .unset, .unset, .unset, .unset, .unset, .unset, .unset, .unset, .unset, .unset, .unset] [(.int ((va &&& (2147483647 : Int32)) - ((va &&& (2147483647 : Int32)) / (3 : Int32)) * (3 : Int32)))]))
  have hk1 := own_n3 va
  generalize (va &&& (2147483647 : Int32)) - ((va &&& (2147483647 : Int32)) / (3 : Int32)) * (3 : Int32) = k1 at hk1 ⊢
  show OwnG p e below s _ _ _ (s₁.setTop (mkF m 6 #[.val (.int va), .val (.int vb), .val (.int vc), .val (.int vd), .val (.int ve), .unset, .unset, .unset, .unset, .unset, .unset, .unset, .unset, .unset, .unset, .unset, .unset, .unset, .unset, .unset, .unset, .unset, .unset, .unset] [(.int k1)]))
  refine own_by (fun t kk_ => XS.istore X0.here hx rfl (hb hby at_6) rfl (l' := #[.val (.int va), .val (.int vb), .val (.int vc), .val (.int vd), .val (.int ve), .val (.int k1), .unset, .unset, .unset, .unset, .unset, .unset, .unset, .unset, .unset, .unset, .unset, .unset, .unset, .unset, .unset, .unset, .unset, .unset]) rfl kk_) ?_
  show OwnG p e below s _ _ _ (s₁.setTop (mkF m 8 #[.val (.int va), .val (.int vb), .val (.int vc), .val (.int vd), .val (.int ve), .val (.int k1), .unset, .unset, .unset, .unset, .unset, .unset, .unset, .unset, .unset, .unset, .unset, .unset, .unset, .unset, .unset, .unset, .unset, .unset] []))
  refine own_by (fun t kk_ => XS.iloadN X0.here hx rfl (hb hby at_8) rfl  kk_) ?_
  show OwnG p e below s _ _ _ (s₁.setTop (mkF m 9 #[.val (.int va), .val (.int vb), .val (.int vc), .val (.int vd), .val (.int ve), .val (.int k1), .unset, .unset, .unset, .unset, .unset, .unset, .unset, .unset, .unset, .unset, .unset, .unset, .unset, .unset, .unset, .unset, .unset, .unset] [(.int vb)]))
  refine own_by (fun t kk_ => XS.iconst X0.here hx rfl (hb hby at_9) kk_) ?_
  show OwnG p e below s _ _ _ (s₁.setTop (mkF m 10 #[.val (.int va), .val (.int vb), .val (.int vc), .val (.int vd), .val (.int ve), .val (.int k1), .unset, .unset, .unset, .unset, .unset, .unset, .unset, .unset, .unset, .unset, .unset, .unset, .unset, .unset, .unset, .unset, .unset, .unset] [(.int (1 : Int32)), (.int vb)]))
  refine own_by (fun t kk_ => XS.iand X0.here hx rfl (hb hby at_10) rfl kk_) ?_
  show OwnG p e below s _ _ _ (s₁.setTop (mkF m 11 #[.val (.int va), .val (.int vb), .val (.int vc), .val (.int vd), .val (.int ve), .val (.int k1), .unset, .unset, .unset, .unset, .unset, .unset, .unset, .unset, .unset, .unset, .unset, .unset, .unset, .unset, .unset, .unset, .unset, .unset] [(.int (vb &&& (1 : Int32)))]))
  have hk2 := own_b1 vb
  generalize vb &&& (1 : Int32) = k2 at hk2 ⊢
  show OwnG p e below s _ _ _ (s₁.setTop (mkF m 11 #[.val (.int va), .val (.int vb), .val (.int vc), .val (.int vd), .val (.int ve), .val (.int k1), .unset, .unset, .unset, .unset, .unset, .unset, .unset, .unset, .unset, .unset, .unset, .unset, .unset, .unset, .unset, .unset, .unset, .unset] [(.int k2)]))
  refine own_by (fun t kk_ => XS.istore X0.here hx rfl (hb hby at_11) rfl (l' := #[.val (.int va), .val (.int vb), .val (.int vc), .val (.int vd), .val (.int ve), .val (.int k1), .val (.int k2), .unset, .unset, .unset, .unset, .unset, .unset, .unset, .unset, .unset, .unset, .unset, .unset, .unset, .unset, .unset, .unset, .unset]) rfl kk_) ?_
  show OwnG p e below s _ _ _ (s₁.setTop (mkF m 13 #[.val (.int va), .val (.int vb), .val (.int vc), .val (.int vd), .val (.int ve), .val (.int k1), .val (.int k2), .unset, .unset, .unset, .unset, .unset, .unset, .unset, .unset, .unset, .unset, .unset, .unset, .unset, .unset, .unset, .unset, .unset] []))
  refine own_by (fun t kk_ => XS.iload X0.here hx rfl (hb hby at_13) rfl  kk_) ?_
  show OwnG p e below s _ _ _ (s₁.setTop (mkF m 15 #[.val (.int va), .val (.int vb), .val (.int vc), .val (.int vd), .val (.int ve), .val (.int k1), .val (.int k2), .unset, .unset, .unset, .unset, .unset, .unset, .unset, .unset, .unset, .unset, .unset, .unset, .unset, .unset, .unset, .unset, .unset] [(.int k1)]))
  refine own_by (fun t kk_ => XS.iload X0.here hx rfl (hb hby at_15) rfl  kk_) ?_
  show OwnG p e below s _ _ _ (s₁.setTop (mkF m 17 #[.val (.int va), .val (.int vb), .val (.int vc), .val (.int vd), .val (.int ve), .val (.int k1), .val (.int k2), .unset, .unset, .unset, .unset, .unset, .unset, .unset, .unset, .unset, .unset, .unset, .unset, .unset, .unset, .unset, .unset, .unset] [(.int k2), (.int k1)]))
  refine own_by (fun t kk_ => XS.iadd X0.here hx rfl (hb hby at_17) rfl kk_) ?_
  show OwnG p e below s _ _ _ (s₁.setTop (mkF m 18 #[.val (.int va), .val (.int vb), .val (.int vc), .val (.int vd), .val (.int ve), .val (.int k1), .val (.int k2), .unset, .unset, .unset, .unset, .unset, .unset, .unset, .unset, .unset, .unset, .unset, .unset, .unset, .unset, .unset, .unset, .unset] [(.int (k1 + k2))]))
  obtain ⟨k3, hk3⟩ : ∃ k3, k3 = k1 + k2 := ⟨_, rfl⟩
  rw [← hk3]
  show OwnG p e below s _ _ _ (s₁.setTop (mkF m 18 #[.val (.int va), .val (.int vb), .val (.int vc), .val (.int vd), .val (.int ve), .val (.int k1), .val (.int k2), .unset, .unset, .unset, .unset, .unset, .unset, .unset, .unset, .unset, .unset, .unset, .unset, .unset, .unset, .unset, .unset, .unset] [(.int k3)]))
  refine own_by (fun t kk_ => XS.istore X0.here hx rfl (hb hby at_18) rfl (l' := #[.val (.int va), .val (.int vb), .val (.int vc), .val (.int vd), .val (.int ve), .val (.int k1), .val (.int k2), .val (.int k3), .unset, .unset, .unset, .unset, .unset, .unset, .unset, .unset, .unset, .unset, .unset, .unset, .unset, .unset, .unset, .unset]) rfl kk_) ?_
  show OwnG p e below s _ _ _ (s₁.setTop (mkF m 20 #[.val (.int va), .val (.int vb), .val (.int vc), .val (.int vd), .val (.int ve), .val (.int k1), .val (.int k2), .val (.int k3), .unset, .unset, .unset, .unset, .unset, .unset, .unset, .unset, .unset, .unset, .unset, .unset, .unset, .unset, .unset, .unset] []))
  refine own_by (fun t kk_ => XS.iload X0.here hx rfl (hb hby at_20) rfl  kk_) ?_
  show OwnG p e below s _ _ _ (s₁.setTop (mkF m 22 #[.val (.int va), .val (.int vb), .val (.int vc), .val (.int vd), .val (.int ve), .val (.int k1), .val (.int k2), .val (.int k3), .unset, .unset, .unset, .unset, .unset, .unset, .unset, .unset, .unset, .unset, .unset, .unset, .unset, .unset, .unset, .unset] [(.int ve)]))
  refine own_by (fun t kk_ => XS.iconst X0.here hx rfl (hb hby at_22) kk_) ?_
  show OwnG p e below s _ _ _ (s₁.setTop (mkF m 23 #[.val (.int va), .val (.int vb), .val (.int vc), .val (.int vd), .val (.int ve), .val (.int k1), .val (.int k2), .val (.int k3), .unset, .unset, .unset, .unset, .unset, .unset, .unset, .unset, .unset, .unset, .unset, .unset, .unset, .unset, .unset, .unset] [(.int (1 : Int32)), (.int ve)]))
  refine own_by (fun t kk_ => XS.iand X0.here hx rfl (hb hby at_23) rfl kk_) ?_
  show OwnG p e below s _ _ _ (s₁.setTop (mkF m 24 #[.val (.int va), .val (.int vb), .val (.int vc), .val (.int vd), .val (.int ve), .val (.int k1), .val (.int k2), .val (.int k3), .unset, .unset, .unset, .unset, .unset, .unset, .unset, .unset, .unset, .unset, .unset, .unset, .unset, .unset, .unset, .unset] [(.int (ve &&& (1 : Int32)))]))
  by_cases hb24_1 : (ve &&& (1 : Int32)) = (0 : Int32)
  · refine own_by (fun t kk_ => XS.ifYes X0.here hx rfl (pc0 := 24) (pc' := 31) rfl (hb hby at_24) rfl ((if0 _ _).trans (teq hb24_1).1) (by decide) (by decide) kk_) ?_
    show OwnG p e below s _ _ _ (s₁.setTop (mkF m 31 #[.val (.int va), .val (.int vb), .val (.int vc), .val (.int vd), .val (.int ve), .val (.int k1), .val (.int k2), .val (.int k3), .unset, .unset, .unset, .unset, .unset, .unset, .unset, .unset, .unset, .unset, .unset, .unset, .unset, .unset, .unset, .unset] []))
    refine own_by (fun t kk_ => XS.iconst X0.here hx rfl (hb hby at_31) kk_) ?_
    show OwnG p e below s _ _ _ (s₁.setTop (mkF m 32 #[.val (.int va), .val (.int vb), .val (.int vc), .val (.int vd), .val (.int ve), .val (.int k1), .val (.int k2), .val (.int k3), .unset, .unset, .unset, .unset, .unset, .unset, .unset, .unset, .unset, .unset, .unset, .unset, .unset, .unset, .unset, .unset] [(.int (0 : Int32))]))
    exact own_f32 va vb vc vd ve k1 k2 k3 (0 : Int32) X0 hx hby hml hret hlk hown hnm hZ hw e0 N0 Z0 SA hk1 hk2 hk3
  · refine own_by (fun t kk_ => XS.ifNo X0.here hx rfl (hb hby at_24) rfl ((if0 _ _).trans (feq hb24_1).1) kk_) ?_
    show OwnG p e below s _ _ _ (s₁.setTop (mkF m 27 #[.val (.int va), .val (.int vb), .val (.int vc), .val (.int vd), .val (.int ve), .val (.int k1), .val (.int k2), .val (.int k3), .unset, .unset, .unset, .unset, .unset, .unset, .unset, .unset, .unset, .unset, .unset, .unset, .unset, .unset, .unset, .unset] []))
    refine own_by (fun t kk_ => XS.iconst X0.here hx rfl (hb hby at_27) kk_) ?_
    show OwnG p e below s _ _ _ (s₁.setTop (mkF m 28 #[.val (.int va), .val (.int vb), .val (.int vc), .val (.int vd), .val (.int ve), .val (.int k1), .val (.int k2), .val (.int k3), .unset, .unset, .unset, .unset, .unset, .unset, .unset, .unset, .unset, .unset, .unset, .unset, .unset, .unset, .unset, .unset] [(.int (1 : Int32))]))
    refine own_by (fun t kk_ => XS.goto X0.here hx rfl (pc0 := 28) (pc' := 32) rfl (hb hby at_28) (by decide) (by decide) kk_) ?_
    show OwnG p e below s _ _ _ (s₁.setTop (mkF m 32 #[.val (.int va), .val (.int vb), .val (.int vc), .val (.int vd), .val (.int ve), .val (.int k1), .val (.int k2), .val (.int k3), .unset, .unset, .unset, .unset, .unset, .unset, .unset, .unset, .unset, .unset, .unset, .unset, .unset, .unset, .unset, .unset] [(.int (1 : Int32))]))
    exact own_f32 va vb vc vd ve k1 k2 k3 (1 : Int32) X0 hx hby hml hret hlk hown hnm hZ hw e0 N0 Z0 SA hk1 hk2 hk3
theorem own_sets {tb : Tables} {e : Env} {args : Array Value} {s : State} (h : rest_1 tb e args s) : Sta s s.heap "java/util/BitSet" "$assertionsDisabled" "Z" (.int (1 : Int32)) := by
  have h' := Cond.before_iff.mp (show rest_1_c.before args s = true from h)
  obtain ⟨h1, h2⟩ := and_e h'
  obtain ⟨h3, h4⟩ := and_e h2
  obtain ⟨h5, -⟩ := and_e h4
  exact Sta.start (own_ev h5) (Or.inl (Cond.before_iff.mpr h3))
set_option maxRecDepth 65536 in
set_option maxHeartbeats 40000000 in
theorem comes_1 {Post : Tables → Env → Array Value → State → Outcome → State → Prop} (hpost : ∀ tb e args s v u, (limb_1_1.after args s (.returned v) u = true ∧ limb_1_2.after args s (.returned v) u = true ∧ True) → FrameEnd s (.returned v) u (Jvm.fieldLocs frame_1_writes args s ++ Jvm.arrayLocs frame_1_arrays args s ++ Jvm.staticLocs frame_1_statics s) 24 128 → Post tb e args s (.returned v) u) :
    ArmFor flags0 classFile x code maxLocals ret World_1 tables_1 room_1 Calls_1 rest_1 Pre_1 Post := by
  intro l hfl _ _ p e ha hc hk s m args below hf hA hF happ hP
  obtain ⟨hcalls, hrest, hpre⟩ := hP
  obtain ⟨-, -, -, hnamed, -, -, -, hat⟩ := (Spec.applies_iff hf).mp happ
  obtain ⟨hg, hn⟩ := and_e (Cond.before_iff.mp (show (Jvm.Cond.and given_1 narrow_1).before args s = true from hpre))
  obtain ⟨gc, gr0⟩ := and_e hg
  obtain ⟨ga0, gr1⟩ := and_e gr0
  obtain ⟨ga1, gr2⟩ := and_e gr1
  obtain ⟨ga2, gr3⟩ := and_e gr2
  obtain ⟨ga3, gr4⟩ := and_e gr3
  obtain ⟨w0, w1, w2, w3, w4, rfl⟩ : ∃ w0 w1 w2 w3 w4 : Value, args = #[w0, w1, w2, w3, w4] := by
    have hs : args.size = 5 := by simpa [Cond.value, given_1] using gc
    obtain ⟨L⟩ := args
    match L, hs with
    | [w0, w1, w2, w3, w4], _ => exact ⟨w0, w1, w2, w3, w4, rfl⟩
  have hw := fun d (hd : d ∈ tables_1) => atoms_spec (ws := Jvm.Cond.code x code maxLocals ret :: tables_1) hat d (List.mem_cons_of_mem _ hd)
  obtain ⟨i0, ei0⟩ := is_v ga0
  obtain rfl : w0 = (.int i0) := Option.some.inj ei0
  obtain ⟨i1, ei1⟩ := is_v ga1
  obtain rfl : w1 = (.int i1) := Option.some.inj ei1
  obtain ⟨i2, ei2⟩ := is_v ga2
  obtain rfl : w2 = (.int i2) := Option.some.inj ei2
  obtain ⟨i3, ei3⟩ := is_v ga3
  obtain rfl : w3 = (.int i3) := Option.some.inj ei3
  obtain ⟨i4, ei4⟩ := is_v gr4
  obtain rfl : w4 = (.int i4) := Option.some.inj ei4
  have SA := own_sets hrest
  obtain ⟨n, o, h1, h2, h3, _, L, rfl, ⟨rfl, N⟩, hq⟩ := rm0 l s _ hw tables_1 i0 i1 i2 i3 i4 s.heap s.heap.size (Nat.le_refl _) SA p e ha hc hk s m _ below hf ((Spec.applies_iff_loose hf).mp happ).1 ⟨rfl, State.Warmed39.refl s, rfl⟩ trivial
  refine ⟨n, _, h1, h2, h3, hpost _ _ _ _ _ _ ⟨Cond.after_iff.mpr rfl, Cond.after_iff.mpr (eq_i res_at (Term.int_eval (1)) rfl), trivial⟩ ⟨hq.1, hq.2.1, (hq.2.2.sift fun y hy => Or.inr (N y hy)).mono (by decide) (by decide)⟩⟩
theorem main_1_1 : Claimed_1_1 := comes_1 fun _ _ _ _ _ _ h hF => ⟨h.1, hF⟩
theorem main_1_2 : Claimed_1_2 := comes_1 fun _ _ _ _ _ _ h hF => ⟨h.2.1, hF⟩
end Jvm.Pilot.@@N@@
namespace Jvm.Pilot.@@N@@
open Jvm Jvm.ClassFile Sem Op Lib Jvm.Free Jvm.Stand Jvm.Pilot.@@N@@.Jvm.D
/-! MADE BY PROGRAM (witnessworld.py) out of the Statement's table words and the real class files: 20 classes; the members and pool entries that the words name. The judged class is class 1, her method 1. -/
namespace start1
open Jvm.ClassFile
def u (s : String) : CpInfo := .utf8 (stringToUtf16 s)
/-- a pool by its gaps: so many unusable entries, then the entry; so many at the end -/
def gap : Nat → List CpInfo → List CpInfo
  | 0, r => r
  | n + 1, r => .unusable :: gap n r
def poolList (es : List (Nat × CpInfo)) (last : Nat) : List CpInfo := es.foldr (fun e r => gap e.1 (e.2 :: r)) (gap last [])
def pool (es : List (Nat × CpInfo)) (last : Nat) : Array CpInfo := ⟨poolList es last⟩
def fileOf (pool : Array CpInfo) (this : Nat) (attrs : Array Attribute := #[]) (ms : Array MethodInfo := #[]) (fl : Nat := 33) (sup : Nat := 0) (ifs : Array Nat := #[]) (fds : Array FieldInfo := #[]) : ClassFile where
  minorVersion := 0
  majorVersion := 65
  constantPool := pool
  accessFlags := fl
  thisClass := this
  superClass := sup
  interfaces := ifs
  fields := fds
  methods := ms
  attributes := attrs
def plain (name : String) (sup : Option ClassId) : Class where
  name := name
  kind := .ordinary
  loader := none
  accessFlags := 33
  super := sup
  interfaces := #[]
  cf := none
  fields := #[]
  methods := #[]
  instanceTypes := #[]
  staticTypes := #[]
  resolved := #[]
  callSites := []
  init := .initialized
  statics := none
  mirror := none

def pool0 : Array CpInfo := pool [(5, u "<init>"), (0, u "()V"), (1, .class_ 10), (1, u "java/lang/Object")] 113

def k0c0 : Code := { maxStack := 0, maxLocals := 1, code := object_method_1_code, exceptionTable := #[], attributes := #[] }
def k0m0 : Method := { name := "<init>", desc := "()V", sig := { parameters := [], returnType := none }, accessFlags := 1, code := some k0c0 }
/-- java/lang/Object -/
def k0 : Class := { plain "java/lang/Object" none with
  accessFlags := 33
  interfaces := #[]
  cf := some (fileOf pool0 8 #[] #[{ accessFlags := 1, nameIndex := 5, descriptorIndex := 6, attributes := #[] }] 33 0 #[] #[])
  fields := #[]
  methods := #[k0m0]
  instanceTypes := #[]
  staticTypes := #[]
  resolved := Array.replicate 124 none
  statics := none }

def pool1 : Array CpInfo := pool [(2, .class_ 4), (0, .nameAndType 5 6), (0, u "java/lang/Object"), (0, u "<init>"), (0, u "()V"), (0, .integer 2147483647), (0, .class_ 9), (0, u "com/example/score_on_crawl/scoreoncrawl/engine/BreadthFirstSequence"), (0, .methodref 8 3), (0, .methodref 8 12), (0, .nameAndType 13 14), (0, u "added"), (0, u "(IZ)V"), (0, .methodref 16 17), (0, .class_ 18), (0, .nameAndType 19 20), (0, u "com/example/score_on_crawl/scoreoncrawl/engine/BreadthFirstSequenceHasNextPinLaw"), (0, u "fetchTwo"), (0, u "(Lcom/example/score_on_crawl/scoreoncrawl/engine/BreadthFirstSequence;ZZZ[I)V"), (0, .methodref 8 22), (0, .nameAndType 23 24), (0, u "hasNext"), (0, u "()Z"), (0, .methodref 16 26), (0, .nameAndType 27 28), (0, u "fetchThree"), (0, u "(Lcom/example/score_on_crawl/scoreoncrawl/engine/BreadthFirstSequence;ZZZZ[I)V"), (0, .methodref 8 30), (0, .nameAndType 31 32), (0, u "fetched"), (0, u "(I[II)V"), (2, u "law"), (0, u "(IIIII)Z")] 5

def k1m0 : Method := { name := "<init>", desc := "()V", sig := { parameters := [], returnType := none }, accessFlags := 1, code := none }
def k1c1 : Code := { maxStack := 6, maxLocals := 24, code := code, exceptionTable := #[], attributes := #[] }
def k1m1 : Method := { name := "law", desc := "(IIIII)Z", sig := { parameters := [.int, .int, .int, .int, .int], returnType := some .boolean }, accessFlags := 9, code := some k1c1 }
def k1c2 : Code := { maxStack := 4, maxLocals := 5, code := method_3_code, exceptionTable := #[], attributes := #[] }
def k1m2 : Method := { name := "fetchTwo", desc := "(Lcom/example/score_on_crawl/scoreoncrawl/engine/BreadthFirstSequence;ZZZ[I)V", sig := { parameters := [(.object "com/example/score_on_crawl/scoreoncrawl/engine/BreadthFirstSequence"), .boolean, .boolean, .boolean, (.array .int)], returnType := none }, accessFlags := 10, code := some k1c2 }
def k1c3 : Code := { maxStack := 4, maxLocals := 6, code := method_4_code, exceptionTable := #[], attributes := #[] }
def k1m3 : Method := { name := "fetchThree", desc := "(Lcom/example/score_on_crawl/scoreoncrawl/engine/BreadthFirstSequence;ZZZZ[I)V", sig := { parameters := [(.object "com/example/score_on_crawl/scoreoncrawl/engine/BreadthFirstSequence"), .boolean, .boolean, .boolean, .boolean, (.array .int)], returnType := none }, accessFlags := 10, code := some k1c3 }
/-- com/example/score_on_crawl/scoreoncrawl/engine/BreadthFirstSequenceHasNextPinLaw -/
def k1 : Class := { plain "com/example/score_on_crawl/scoreoncrawl/engine/BreadthFirstSequenceHasNextPinLaw" (some 0) with
  accessFlags := 49
  interfaces := #[]
  cf := some (fileOf pool1 16 #[] #[{ accessFlags := 1, nameIndex := 5, descriptorIndex := 6, attributes := #[] }, { accessFlags := 9, nameIndex := 35, descriptorIndex := 36, attributes := #[] }, { accessFlags := 10, nameIndex := 19, descriptorIndex := 20, attributes := #[] }, { accessFlags := 10, nameIndex := 27, descriptorIndex := 28, attributes := #[] }] 49 2 #[] #[])
  fields := #[]
  methods := #[k1m0, k1m1, k1m2, k1m3]
  instanceTypes := #[]
  staticTypes := #[]
  resolved := Array.replicate 42 none
  statics := none }

def pool2 : Array CpInfo := pool [(1, .class_ 2), (0, u "com/example/score_on_crawl/scoreoncrawl/engine/CrawlOrder$Sequence"), (0, .class_ 4), (0, u "java/lang/Object"), (22, .class_ 28), (0, u "com/example/score_on_crawl/scoreoncrawl/engine/CrawlOrder")] 2

/-- com/example/score_on_crawl/scoreoncrawl/engine/CrawlOrder$Sequence -/
def k2 : Class := { plain "com/example/score_on_crawl/scoreoncrawl/engine/CrawlOrder$Sequence" (some 0) with
  accessFlags := 1536
  interfaces := #[]
  cf := some (fileOf pool2 1 #[.nestHost 27] #[] 1536 3 #[] #[])
  fields := #[]
  methods := #[]
  instanceTypes := #[]
  staticTypes := #[]
  resolved := Array.replicate 31 none
  statics := none }

def pool3 : Array CpInfo := pool [(1, .methodref 2 3), (0, .class_ 4), (0, .nameAndType 5 6), (0, u "java/lang/Object"), (0, u "<init>"), (0, u "()V"), (0, .class_ 8), (0, u "com/example/score_on_crawl/scoreoncrawl/engine/FetchedPages"), (0, .methodref 7 3), (0, .fieldref 11 12), (0, .class_ 13), (0, .nameAndType 14 15), (0, u "com/example/score_on_crawl/scoreoncrawl/engine/BreadthFirstSequence"), (0, u "fetched"), (0, u "Lcom/example/score_on_crawl/scoreoncrawl/engine/FetchedPages;"), (0, .fieldref 11 17), (0, .nameAndType 18 19), (0, u "pages"), (0, u "I"), (0, .methodref 7 21), (0, .nameAndType 22 23), (0, u "add"), (0, u "(I)V"), (0, .fieldref 11 25), (0, .nameAndType 26 19), (0, u "cursor"), (0, .methodref 7 28), (0, .nameAndType 29 30), (0, u "nextUnfetched"), (0, u "(I)I"), (8, .class_ 40), (0, u "com/example/score_on_crawl/scoreoncrawl/engine/CrawlOrder$Sequence"), (2, u "added"), (0, u "(IZ)V"), (0, u "(I[II)V"), (0, u "hasNext"), (0, u "()Z")] 9

def k3c0 : Code := { maxStack := 3, maxLocals := 1, code := prog_2_method_1_code, exceptionTable := #[], attributes := #[] }
def k3m0 : Method := { name := "<init>", desc := "()V", sig := { parameters := [], returnType := none }, accessFlags := 0, code := some k3c0 }
def k3c1 : Code := { maxStack := 3, maxLocals := 3, code := prog_2_method_2_code, exceptionTable := #[], attributes := #[] }
def k3m1 : Method := { name := "added", desc := "(IZ)V", sig := { parameters := [.int, .boolean], returnType := none }, accessFlags := 1, code := some k3c1 }
def k3c2 : Code := { maxStack := 3, maxLocals := 4, code := prog_2_method_3_code, exceptionTable := #[], attributes := #[] }
def k3m2 : Method := { name := "fetched", desc := "(I[II)V", sig := { parameters := [.int, (.array .int), .int], returnType := none }, accessFlags := 1, code := some k3c2 }
def k3c3 : Code := { maxStack := 2, maxLocals := 1, code := prog_2_method_4_code, exceptionTable := #[], attributes := #[] }
def k3m3 : Method := { name := "hasNext", desc := "()Z", sig := { parameters := [], returnType := some .boolean }, accessFlags := 1, code := some k3c3 }
/-- com/example/score_on_crawl/scoreoncrawl/engine/BreadthFirstSequence -/
def k3 : Class := { plain "com/example/score_on_crawl/scoreoncrawl/engine/BreadthFirstSequence" (some 0) with
  accessFlags := 48
  interfaces := #[2]
  cf := some (fileOf pool3 11 #[] #[{ accessFlags := 0, nameIndex := 5, descriptorIndex := 6, attributes := #[] }, { accessFlags := 1, nameIndex := 43, descriptorIndex := 44, attributes := #[] }, { accessFlags := 1, nameIndex := 14, descriptorIndex := 45, attributes := #[] }, { accessFlags := 1, nameIndex := 46, descriptorIndex := 47, attributes := #[] }] 48 2 #[39] #[{ accessFlags := 18, nameIndex := 14, descriptorIndex := 15, attributes := #[] }, { accessFlags := 2, nameIndex := 18, descriptorIndex := 19, attributes := #[] }, { accessFlags := 2, nameIndex := 26, descriptorIndex := 19, attributes := #[] }])
  fields := #[{ name := "fetched", type := (.object "com/example/score_on_crawl/scoreoncrawl/engine/FetchedPages"), accessFlags := 18, slot := 0, constantValue := 0 }, { name := "pages", type := .int, accessFlags := 2, slot := 1, constantValue := 0 }, { name := "cursor", type := .int, accessFlags := 2, slot := 2, constantValue := 0 }]
  methods := #[k3m0, k3m1, k3m2, k3m3]
  instanceTypes := #[(.object "com/example/score_on_crawl/scoreoncrawl/engine/FetchedPages"), .int, .int]
  staticTypes := #[]
  resolved := Array.replicate 57 none
  statics := none }

def pool4 : Array CpInfo := pool [(1, .methodref 2 3), (0, .class_ 4), (0, .nameAndType 5 6), (0, u "java/lang/Object"), (0, u "<init>"), (0, u "()V"), (0, .class_ 8), (0, u "java/util/BitSet"), (0, .methodref 7 3), (0, .fieldref 11 12), (0, .class_ 13), (0, .nameAndType 14 15), (0, u "com/example/score_on_crawl/scoreoncrawl/engine/FetchedPages"), (0, u "fetched"), (0, u "Ljava/util/BitSet;"), (0, .methodref 7 17), (0, .nameAndType 18 19), (0, u "set"), (0, u "(I)V"), (0, .methodref 7 21), (0, .nameAndType 22 23), (0, u "nextClearBit"), (0, u "(I)I"), (37, u "FETCHED"), (0, u "Ljava/lang/String;"), (3, u "add"), (0, u "nextUnfetched")] 24

def k4c0 : Code := { maxStack := 3, maxLocals := 1, code := prog_8_method_1_code, exceptionTable := #[], attributes := #[] }
def k4m0 : Method := { name := "<init>", desc := "()V", sig := { parameters := [], returnType := none }, accessFlags := 0, code := some k4c0 }
def k4c1 : Code := { maxStack := 2, maxLocals := 2, code := prog_8_method_2_code, exceptionTable := #[], attributes := #[] }
def k4m1 : Method := { name := "add", desc := "(I)V", sig := { parameters := [.int], returnType := none }, accessFlags := 0, code := some k4c1 }
def k4c2 : Code := { maxStack := 2, maxLocals := 2, code := prog_8_method_3_code, exceptionTable := #[], attributes := #[] }
def k4m2 : Method := { name := "nextUnfetched", desc := "(I)I", sig := { parameters := [.int], returnType := some .int }, accessFlags := 0, code := some k4c2 }
/-- com/example/score_on_crawl/scoreoncrawl/engine/FetchedPages -/
def k4 : Class := { plain "com/example/score_on_crawl/scoreoncrawl/engine/FetchedPages" (some 0) with
  accessFlags := 48
  interfaces := #[]
  cf := some (fileOf pool4 11 #[] #[{ accessFlags := 0, nameIndex := 5, descriptorIndex := 6, attributes := #[] }, { accessFlags := 0, nameIndex := 66, descriptorIndex := 19, attributes := #[] }, { accessFlags := 0, nameIndex := 67, descriptorIndex := 23, attributes := #[] }] 48 2 #[] #[{ accessFlags := 26, nameIndex := 61, descriptorIndex := 62, attributes := #[] }, { accessFlags := 2, nameIndex := 14, descriptorIndex := 15, attributes := #[] }])
  fields := #[{ name := "FETCHED", type := (.object "java/lang/String"), accessFlags := 26, slot := 0, constantValue := 0 }, { name := "fetched", type := (.object "java/util/BitSet"), accessFlags := 2, slot := 0, constantValue := 0 }]
  methods := #[k4m0, k4m1, k4m2]
  instanceTypes := #[(.object "java/util/BitSet")]
  staticTypes := #[(.object "java/lang/String")]
  resolved := Array.replicate 92 none
  statics := none }

def pool5 : Array CpInfo := pool [(1, .class_ 2), (0, u "java/lang/Cloneable"), (0, .class_ 4), (0, u "java/lang/Object")] 2

/-- java/lang/Cloneable -/
def k5 : Class := { plain "java/lang/Cloneable" (some 0) with
  accessFlags := 1537
  interfaces := #[]
  cf := some (fileOf pool5 1 #[] #[] 1537 3 #[] #[])
  fields := #[]
  methods := #[]
  instanceTypes := #[]
  staticTypes := #[]
  resolved := Array.replicate 7 none
  statics := none }

def pool6 : Array CpInfo := pool [(1, .class_ 2), (0, u "java/io/Serializable"), (0, .class_ 4), (0, u "java/lang/Object")] 2

/-- java/io/Serializable -/
def k6 : Class := { plain "java/io/Serializable" (some 0) with
  accessFlags := 1537
  interfaces := #[]
  cf := some (fileOf pool6 1 #[] #[] 1537 3 #[] #[])
  fields := #[]
  methods := #[]
  instanceTypes := #[]
  staticTypes := #[]
  resolved := Array.replicate 7 none
  statics := none }

def pool7 : Array CpInfo := pool [(1, .class_ 2), (0, u "java/util/BitSet"), (0, .fieldref 1 4), (0, .nameAndType 5 6), (0, u "$assertionsDisabled"), (0, u "Z"), (0, .fieldref 1 8), (0, .nameAndType 9 10), (0, u "wordsInUse"), (0, u "I"), (0, .fieldref 1 12), (0, .nameAndType 13 14), (0, u "words"), (0, u "[J"), (3, .nameAndType 19 20), (0, u "<init>"), (0, u "()V"), (0, .methodref 22 18), (0, .class_ 23), (0, u "java/lang/Object"), (0, .fieldref 1 25), (0, .nameAndType 26 6), (0, u "sizeIsSticky"), (0, .methodref 1 28), (0, .nameAndType 29 30), (0, u "initWords"), (0, u "(I)V"), (21, .methodref 1 53), (0, .nameAndType 54 55), (0, u "wordIndex"), (0, u "(I)I"), (0, .methodref 1 57), (0, .nameAndType 58 20), (0, u "checkInvariants"), (80, .methodref 1 140), (0, .nameAndType 141 30), (0, u "ensureCapacity"), (13, .methodref 1 156), (0, .nameAndType 157 30), (0, u "expandTo"), (7, .long 18446744073709551615), (3, u "set"), (12, .methodref 183 184), (0, .class_ 185), (0, .nameAndType 186 187), (0, u "java/lang/Long"), (0, u "numberOfTrailingZeros"), (0, u "(J)I"), (78, u "nextClearBit"), (2, .class_ 270), (0, u "java/util/BitSet$1BitSetSpliterator"), (22, u "serialPersistentFields"), (0, u "[Ljava/io/ObjectStreamField;"), (0, .class_ 296), (0, u "java/lang/Cloneable"), (0, .class_ 298), (0, u "java/io/Serializable"), (0, u "ADDRESS_BITS_PER_WORD"), (2, u "BITS_PER_WORD"), (1, u "BIT_INDEX_MASK"), (1, u "WORD_MASK"), (0, u "J"), (0, u "serialVersionUID")] 108

def k7c0 : Code := { maxStack := 2, maxLocals := 1, code := jdk_92_method_1_code, exceptionTable := #[], attributes := #[] }
def k7m0 : Method := { name := "wordIndex", desc := "(I)I", sig := { parameters := [.int], returnType := some .int }, accessFlags := 10, code := some k7c0 }
def k7c1 : Code := { maxStack := 4, maxLocals := 1, code := jdk_92_method_2_code, exceptionTable := #[], attributes := #[] }
def k7m1 : Method := { name := "checkInvariants", desc := "()V", sig := { parameters := [], returnType := none }, accessFlags := 2, code := some k7c1 }
def k7c2 : Code := { maxStack := 2, maxLocals := 1, code := jdk_92_method_4_code, exceptionTable := #[], attributes := #[] }
def k7m2 : Method := { name := "<init>", desc := "()V", sig := { parameters := [], returnType := none }, accessFlags := 1, code := some k7c2 }
def k7c3 : Code := { maxStack := 3, maxLocals := 2, code := jdk_92_method_6_code, exceptionTable := #[], attributes := #[] }
def k7m3 : Method := { name := "initWords", desc := "(I)V", sig := { parameters := [.int], returnType := none }, accessFlags := 2, code := some k7c3 }
def k7c4 : Code := { maxStack := 3, maxLocals := 3, code := jdk_92_method_14_code, exceptionTable := #[], attributes := #[] }
def k7m4 : Method := { name := "ensureCapacity", desc := "(I)V", sig := { parameters := [.int], returnType := none }, accessFlags := 2, code := some k7c4 }
def k7c5 : Code := { maxStack := 2, maxLocals := 3, code := jdk_92_method_15_code, exceptionTable := #[], attributes := #[] }
def k7m5 : Method := { name := "expandTo", desc := "(I)V", sig := { parameters := [.int], returnType := none }, accessFlags := 2, code := some k7c5 }
def k7c6 : Code := { maxStack := 7, maxLocals := 3, code := jdk_92_method_19_code, exceptionTable := #[], attributes := #[] }
def k7m6 : Method := { name := "set", desc := "(I)V", sig := { parameters := [.int], returnType := none }, accessFlags := 1, code := some k7c6 }
def k7c7 : Code := { maxStack := 5, maxLocals := 5, code := jdk_92_method_29_code, exceptionTable := #[], attributes := #[] }
def k7m7 : Method := { name := "nextClearBit", desc := "(I)I", sig := { parameters := [.int], returnType := some .int }, accessFlags := 1, code := some k7c7 }
/-- java/util/BitSet -/
def k7 : Class := { plain "java/util/BitSet" (some 0) with
  accessFlags := 33
  interfaces := #[5, 6]
  cf := some (fileOf pool7 1 #[.nestMembers #[269]] #[{ accessFlags := 10, nameIndex := 54, descriptorIndex := 55, attributes := #[] }, { accessFlags := 2, nameIndex := 58, descriptorIndex := 20, attributes := #[] }, { accessFlags := 1, nameIndex := 19, descriptorIndex := 20, attributes := #[] }, { accessFlags := 2, nameIndex := 29, descriptorIndex := 30, attributes := #[] }, { accessFlags := 2, nameIndex := 141, descriptorIndex := 30, attributes := #[] }, { accessFlags := 2, nameIndex := 157, descriptorIndex := 30, attributes := #[] }, { accessFlags := 1, nameIndex := 169, descriptorIndex := 30, attributes := #[] }, { accessFlags := 1, nameIndex := 266, descriptorIndex := 55, attributes := #[] }] 33 22 #[295, 297] #[{ accessFlags := 26, nameIndex := 299, descriptorIndex := 10, attributes := #[] }, { accessFlags := 26, nameIndex := 302, descriptorIndex := 10, attributes := #[] }, { accessFlags := 26, nameIndex := 304, descriptorIndex := 10, attributes := #[] }, { accessFlags := 26, nameIndex := 306, descriptorIndex := 307, attributes := #[] }, { accessFlags := 26, nameIndex := 293, descriptorIndex := 294, attributes := #[] }, { accessFlags := 2, nameIndex := 13, descriptorIndex := 14, attributes := #[] }, { accessFlags := 130, nameIndex := 9, descriptorIndex := 10, attributes := #[] }, { accessFlags := 130, nameIndex := 26, descriptorIndex := 6, attributes := #[] }, { accessFlags := 26, nameIndex := 308, descriptorIndex := 307, attributes := #[] }, { accessFlags := 4120, nameIndex := 5, descriptorIndex := 6, attributes := #[] }])
  fields := #[{ name := "ADDRESS_BITS_PER_WORD", type := .int, accessFlags := 26, slot := 0, constantValue := 0 }, { name := "BITS_PER_WORD", type := .int, accessFlags := 26, slot := 1, constantValue := 0 }, { name := "BIT_INDEX_MASK", type := .int, accessFlags := 26, slot := 2, constantValue := 0 }, { name := "WORD_MASK", type := .long, accessFlags := 26, slot := 3, constantValue := 0 }, { name := "serialPersistentFields", type := (.array (.object "java/io/ObjectStreamField")), accessFlags := 26, slot := 4, constantValue := 0 }, { name := "words", type := (.array .long), accessFlags := 2, slot := 0, constantValue := 0 }, { name := "wordsInUse", type := .int, accessFlags := 130, slot := 1, constantValue := 0 }, { name := "sizeIsSticky", type := .boolean, accessFlags := 130, slot := 2, constantValue := 0 }, { name := "serialVersionUID", type := .long, accessFlags := 26, slot := 5, constantValue := 0 }, { name := "$assertionsDisabled", type := .boolean, accessFlags := 4120, slot := 6, constantValue := 0 }]
  methods := #[k7m0, k7m1, k7m2, k7m3, k7m4, k7m5, k7m6, k7m7]
  instanceTypes := #[(.array .long), .int, .boolean]
  staticTypes := #[.int, .int, .int, .long, (.array (.object "java/io/ObjectStreamField")), .long, .boolean]
  resolved := Array.replicate 417 none
  statics := some 0 }

def pool8 : Array CpInfo := pool [(2, .class_ 4), (1, u "java/lang/Object"), (0, u "<init>"), (0, u "()V"), (1, .class_ 10), (1, u "java/lang/Number"), (2, .class_ 14), (0, u "java/io/Serializable"), (0, u "serialVersionUID"), (0, u "J")] 20

def k8m0 : Method := { name := "<init>", desc := "()V", sig := { parameters := [], returnType := none }, accessFlags := 1, code := none }
/-- java/lang/Number -/
def k8 : Class := { plain "java/lang/Number" (some 0) with
  accessFlags := 1057
  interfaces := #[6]
  cf := some (fileOf pool8 8 #[] #[{ accessFlags := 1, nameIndex := 5, descriptorIndex := 6, attributes := #[] }] 1057 2 #[13] #[{ accessFlags := 26, nameIndex := 15, descriptorIndex := 16, attributes := #[] }])
  fields := #[{ name := "serialVersionUID", type := .long, accessFlags := 26, slot := 0, constantValue := 0 }]
  methods := #[k8m0]
  instanceTypes := #[]
  staticTypes := #[.long]
  resolved := Array.replicate 37 none
  statics := none }

def pool9 : Array CpInfo := pool [(1, .class_ 2), (0, u "java/lang/Comparable"), (0, .class_ 4), (0, u "java/lang/Object")] 7

/-- java/lang/Comparable -/
def k9 : Class := { plain "java/lang/Comparable" (some 0) with
  accessFlags := 1537
  interfaces := #[]
  cf := some (fileOf pool9 1 #[] #[] 1537 3 #[] #[])
  fields := #[]
  methods := #[]
  instanceTypes := #[]
  staticTypes := #[]
  resolved := Array.replicate 12 none
  statics := none }

def pool10 : Array CpInfo := pool [(1, .class_ 2), (0, u "java/lang/constant/Constable"), (0, .class_ 4), (0, u "java/lang/Object")] 6

/-- java/lang/constant/Constable -/
def k10 : Class := { plain "java/lang/constant/Constable" (some 0) with
  accessFlags := 1537
  interfaces := #[]
  cf := some (fileOf pool10 1 #[] #[] 1537 3 #[] #[])
  fields := #[]
  methods := #[]
  instanceTypes := #[]
  staticTypes := #[]
  resolved := Array.replicate 11 none
  statics := none }

def pool11 : Array CpInfo := pool [(1, .class_ 2), (0, u "java/lang/constant/ConstantDesc"), (0, .class_ 4), (0, u "java/lang/Object")] 32

/-- java/lang/constant/ConstantDesc -/
def k11 : Class := { plain "java/lang/constant/ConstantDesc" (some 0) with
  accessFlags := 1537
  interfaces := #[]
  cf := some (fileOf pool11 1 #[] #[] 1537 3 #[] #[])
  fields := #[]
  methods := #[]
  instanceTypes := #[]
  staticTypes := #[]
  resolved := Array.replicate 37 none
  statics := none }

def pool12 : Array CpInfo := pool [(1, .class_ 2), (0, u "java/lang/Long"), (15, .class_ 20), (1, u "java/lang/Integer"), (80, u "(J)I"), (133, .class_ 237), (1, u "java/lang/Long$LongCache"), (33, .class_ 272), (0, u "java/lang/Number"), (2, u "value"), (0, u "J"), (33, u "(I)I"), (0, .methodref 18 312), (0, .nameAndType 313 310), (0, u "numberOfTrailingZeros"), (47, u "TYPE"), (0, u "Ljava/lang/Class;"), (0, .class_ 364), (0, u "java/lang/Comparable"), (0, .class_ 366), (0, u "java/lang/constant/Constable"), (0, .class_ 368), (0, u "java/lang/constant/ConstantDesc"), (0, u "MIN_VALUE"), (1, u "MAX_VALUE"), (4, u "SIZE"), (0, u "I"), (1, u "BYTES"), (1, u "serialVersionUID")] 142

def k12c0 : Code := { maxStack := 4, maxLocals := 3, code := jdk_35_method_49_code, exceptionTable := #[], attributes := #[] }
def k12m0 : Method := { name := "numberOfTrailingZeros", desc := "(J)I", sig := { parameters := [.long], returnType := some .int }, accessFlags := 9, code := some k12c0 }
/-- java/lang/Long -/
def k12 : Class := { plain "java/lang/Long" (some 8) with
  accessFlags := 49
  interfaces := #[9, 10, 11]
  cf := some (fileOf pool12 1 #[.nestMembers #[235]] #[{ accessFlags := 9, nameIndex := 313, descriptorIndex := 101, attributes := #[] }] 49 271 #[363, 365, 367] #[{ accessFlags := 25, nameIndex := 369, descriptorIndex := 276, attributes := #[] }, { accessFlags := 25, nameIndex := 371, descriptorIndex := 276, attributes := #[] }, { accessFlags := 25, nameIndex := 361, descriptorIndex := 362, attributes := #[] }, { accessFlags := 18, nameIndex := 275, descriptorIndex := 276, attributes := #[] }, { accessFlags := 25, nameIndex := 376, descriptorIndex := 377, attributes := #[] }, { accessFlags := 25, nameIndex := 379, descriptorIndex := 377, attributes := #[] }, { accessFlags := 26, nameIndex := 381, descriptorIndex := 276, attributes := #[] }])
  fields := #[{ name := "MIN_VALUE", type := .long, accessFlags := 25, slot := 0, constantValue := 0 }, { name := "MAX_VALUE", type := .long, accessFlags := 25, slot := 1, constantValue := 0 }, { name := "TYPE", type := (.object "java/lang/Class"), accessFlags := 25, slot := 2, constantValue := 0 }, { name := "value", type := .long, accessFlags := 18, slot := 0, constantValue := 0 }, { name := "SIZE", type := .int, accessFlags := 25, slot := 3, constantValue := 0 }, { name := "BYTES", type := .int, accessFlags := 25, slot := 4, constantValue := 0 }, { name := "serialVersionUID", type := .long, accessFlags := 26, slot := 5, constantValue := 0 }]
  methods := #[k12m0]
  instanceTypes := #[.long]
  staticTypes := #[.long, .long, (.object "java/lang/Class"), .int, .int, .long]
  resolved := Array.replicate 524 none
  statics := none }

def pool13 : Array CpInfo := pool [(1, .class_ 2), (0, u "java/lang/Integer"), (16, u "digits"), (0, u "[C"), (33, u "(I)I"), (30, u "DigitOnes"), (0, u "[B"), (2, u "DigitTens"), (99, .class_ 190), (0, u "java/lang/Integer$IntegerCache"), (3, u "I"), (8, .class_ 204), (0, u "java/lang/Number"), (2, u "value"), (56, .integer 65536), (37, u "TYPE"), (0, u "Ljava/lang/Class;"), (0, .class_ 305), (0, u "java/lang/Comparable"), (0, .class_ 307), (0, u "java/lang/constant/Constable"), (0, .class_ 309), (0, u "java/lang/constant/ConstantDesc"), (0, u "MIN_VALUE"), (1, u "MAX_VALUE"), (3, u "SIZE"), (1, u "BYTES"), (1, u "serialVersionUID"), (0, u "J"), (84, u "numberOfTrailingZeros")] 46

def k13c0 : Code := { maxStack := 3, maxLocals := 2, code := jdk_33_method_48_code, exceptionTable := #[], attributes := #[] }
def k13m0 : Method := { name := "numberOfTrailingZeros", desc := "(I)I", sig := { parameters := [.int], returnType := some .int }, accessFlags := 9, code := some k13c0 }
/-- java/lang/Integer -/
def k13 : Class := { plain "java/lang/Integer" (some 8) with
  accessFlags := 49
  interfaces := #[9, 10, 11]
  cf := some (fileOf pool13 1 #[.nestMembers #[189]] #[{ accessFlags := 9, nameIndex := 406, descriptorIndex := 54, attributes := #[] }] 49 203 #[304, 306, 308] #[{ accessFlags := 25, nameIndex := 310, descriptorIndex := 194, attributes := #[] }, { accessFlags := 25, nameIndex := 312, descriptorIndex := 194, attributes := #[] }, { accessFlags := 25, nameIndex := 302, descriptorIndex := 303, attributes := #[] }, { accessFlags := 24, nameIndex := 19, descriptorIndex := 20, attributes := #[] }, { accessFlags := 24, nameIndex := 89, descriptorIndex := 86, attributes := #[] }, { accessFlags := 24, nameIndex := 85, descriptorIndex := 86, attributes := #[] }, { accessFlags := 18, nameIndex := 207, descriptorIndex := 194, attributes := #[] }, { accessFlags := 25, nameIndex := 316, descriptorIndex := 194, attributes := #[] }, { accessFlags := 25, nameIndex := 318, descriptorIndex := 194, attributes := #[] }, { accessFlags := 26, nameIndex := 320, descriptorIndex := 321, attributes := #[] }])
  fields := #[{ name := "MIN_VALUE", type := .int, accessFlags := 25, slot := 0, constantValue := 0 }, { name := "MAX_VALUE", type := .int, accessFlags := 25, slot := 1, constantValue := 0 }, { name := "TYPE", type := (.object "java/lang/Class"), accessFlags := 25, slot := 2, constantValue := 0 }, { name := "digits", type := (.array .char), accessFlags := 24, slot := 3, constantValue := 0 }, { name := "DigitTens", type := (.array .byte), accessFlags := 24, slot := 4, constantValue := 0 }, { name := "DigitOnes", type := (.array .byte), accessFlags := 24, slot := 5, constantValue := 0 }, { name := "value", type := .int, accessFlags := 18, slot := 0, constantValue := 0 }, { name := "SIZE", type := .int, accessFlags := 25, slot := 6, constantValue := 0 }, { name := "BYTES", type := .int, accessFlags := 25, slot := 7, constantValue := 0 }, { name := "serialVersionUID", type := .long, accessFlags := 26, slot := 8, constantValue := 0 }]
  methods := #[k13m0]
  instanceTypes := #[.int]
  staticTypes := #[.int, .int, (.object "java/lang/Class"), (.array .char), (.array .byte), (.array .byte), .int, .int, .long]
  resolved := Array.replicate 453 none
  statics := none }

/-- the primitive byte -/
def k14 : Class := { plain "byte" none with kind := .primitive 'B', accessFlags := 0x411 }
/-- [B -/
def k15 : Class := { plain "[B" (some 0) with kind := .array 14 .byte, interfaces := #[5, 6], accessFlags := 1041 }

/-- the primitive int -/
def k16 : Class := { plain "int" none with kind := .primitive 'I', accessFlags := 0x411 }
/-- [I -/
def k17 : Class := { plain "[I" (some 0) with kind := .array 16 .int, interfaces := #[5, 6], accessFlags := 1041 }

/-- the primitive long -/
def k18 : Class := { plain "long" none with kind := .primitive 'J', accessFlags := 0x411 }
/-- [J -/
def k19 : Class := { plain "[J" (some 0) with kind := .array 18 .long, interfaces := #[5, 6], accessFlags := 1041 }

def heap : Heap := #[{ cls := 7, slots := #[.int 0, .int 0, .int 0, .long 0, .null, .long 0, .int 1], vm := .statics 7 }]
def classes : Array Class := #[k0, k1, k2, k3, k4, k5, k6, k7, k8, k9, k10, k11, k12, k13, k14, k15, k16, k17, k18, k19]
def interned : List (Array UInt16 × Addr) := []
def slotsUsed : Nat := 7
def theMethod : MethodId := ⟨1, 1⟩
def args0 : Array Value := #[.int 5, .int 1, .int 3, .int 4, .int 1]
def aboutOver (below : List Frame) : State where
  vm := { classes := classes, interned := interned.toArray }
  heap := heap
  slotsUsed := slotsUsed
  threads := #[{ frames := .invoking theMethod args0 :: below }]
def below0 : List Frame := [.native { method := ⟨0, 0⟩, args := #[] }]
def about1 : State := aboutOver below0
def p0 : Program := .bare "" "" ""
def e0 : Env := launch0.env 0 0 0
theorem w_frames : about1.frames = Frame.invoking theMethod args0 :: below0 := rfl
set_option maxRecDepth 65536 in
theorem w_args : argsFit about1.vm theMethod args0 = true := by decide +kernel
set_option maxRecDepth 65536 in
theorem w_heap : heapFits about1 = true := by decide +kernel
set_option maxRecDepth 65536 in
theorem w_runnable : about1.curStatus? = some .runnable := by decide +kernel
set_option maxRecDepth 65536 in
theorem w_alone : about1.alone = true := by decide +kernel
set_option maxRecDepth 65536 in
theorem w_named : about1.methodNamed? x = some theMethod := by decide +kernel
set_option maxRecDepth 65536 in
theorem w_hears : about1.hears theMethod below0 = true := by decide +kernel
set_option maxRecDepth 65536 in
theorem w_ripe : about1.ripe theMethod args0 below0 = true := by decide +kernel
theorem w_running : about1.status = .running := rfl
set_option maxRecDepth 65536 in
theorem w_room : about1.hasRoom e0.platform room_1 = true :=
  launch0.hasRoom_least _ room_1 (by decide +kernel) (by decide +kernel) (by decide +kernel) (by decide +kernel) (by decide +kernel) (by decide +kernel)
theorem allAtoms_all (ts : List Jvm.Cond) (a : Array Jvm.Value) (st : Jvm.State) : (allAtoms ts).before a st = ts.all (fun c => c.before a st) := by
  induction ts with
  | nil => rfl
  | cons c t ih =>
    show (Jvm.Cond.and c (allAtoms t)).before a st = _
    rw [Jvm.Cond.before_and, ih, List.all_cons]
def words1 : List Jvm.Cond := Jvm.Cond.code x code maxLocals ret :: tables_1
/-- a 'code' word, met by the world's own term for the bytes: nothing is compared byte by byte -/
theorem code_word {y : MethodName} {bytes : ByteArray} {mx : Nat} {rt : Option FieldType} {a : Array Value} {s : State} {m : MethodId} {meth : Method} {c : Code} (h1 : s.methodNamed? y = some m) (h2 : s.vm.method? m = some meth) (h3 : meth.code = some c) (h4 : c.code = bytes)
    (h5 : (c.maxLocals == mx && c.exceptionTable.isEmpty && decide (c.maxStack ≤ mostOperands) && decide (meth.sig.returnType = rt) && !meth.locks && decide (parseMethodDescriptor y.desc = some meth.sig)) = true) : (Jvm.Cond.code y bytes mx rt).before a s = true := by
  simp only [Bool.and_eq_true, beq_iff_eq, Bool.not_eq_true', decide_eq_true_eq] at h5
  obtain ⟨⟨⟨⟨⟨g1, g2⟩, g3⟩, g4⟩, g5⟩, g6⟩ := h5
  simp [Cond.before, Cond.holds, Cond.value, h1, h2, h3, h4, g1, g2, g3, g4, g5, g6]
def isCode : Jvm.Cond → Bool
  | .code _ _ _ _ => true
  | _ => false
theorem all_split {L : List Jvm.Cond} {P : Jvm.Cond → Bool} (h1 : L.all (fun c => isCode c || P c) = true) (h2 : ∀ c ∈ L.filter isCode, P c = true) : L.all P = true := by
  refine List.all_eq_true.mpr fun c hc => ?_
  have h := List.all_eq_true.mp h1 c hc
  rcases Bool.eq_false_or_eq_true (isCode c) with hi | hi
  · exact h2 c (List.mem_filter.mpr ⟨hc, hi⟩)
  · simpa [hi] using h
set_option maxRecDepth 65536 in
theorem w_c0 : (Jvm.Cond.code x code maxLocals ret).before args0 about1 = true := code_word (m := ⟨1, 1⟩) (meth := k1m1) (c := k1c1) (by decide +kernel) rfl rfl rfl (by decide +kernel)
set_option maxRecDepth 65536 in
theorem w_c1 : (Jvm.Cond.code ({ cls := "com/example/score_on_crawl/scoreoncrawl/engine/BreadthFirstSequence", name := "<init>", desc := "()V" } : Jvm.MethodName) prog_2_method_1_code (1 : Nat) (Option.none : Option Jvm.ClassFile.FieldType)).before args0 about1 = true := code_word (m := ⟨3, 0⟩) (meth := k3m0) (c := k3c0) (by decide +kernel) rfl rfl rfl (by decide +kernel)
set_option maxRecDepth 65536 in
theorem w_c2 : (Jvm.Cond.code ({ cls := "java/lang/Object", name := "<init>", desc := "()V" } : Jvm.MethodName) object_method_1_code (1 : Nat) (Option.none : Option Jvm.ClassFile.FieldType)).before args0 about1 = true := code_word (m := ⟨0, 0⟩) (meth := k0m0) (c := k0c0) (by decide +kernel) rfl rfl rfl (by decide +kernel)
set_option maxRecDepth 65536 in
theorem w_c3 : (Jvm.Cond.code ({ cls := "com/example/score_on_crawl/scoreoncrawl/engine/FetchedPages", name := "<init>", desc := "()V" } : Jvm.MethodName) prog_8_method_1_code (1 : Nat) (Option.none : Option Jvm.ClassFile.FieldType)).before args0 about1 = true := code_word (m := ⟨4, 0⟩) (meth := k4m0) (c := k4c0) (by decide +kernel) rfl rfl rfl (by decide +kernel)
set_option maxRecDepth 65536 in
theorem w_c4 : (Jvm.Cond.code ({ cls := "java/util/BitSet", name := "<init>", desc := "()V" } : Jvm.MethodName) jdk_92_method_4_code (1 : Nat) (Option.none : Option Jvm.ClassFile.FieldType)).before args0 about1 = true := code_word (m := ⟨7, 2⟩) (meth := k7m2) (c := k7c2) (by decide +kernel) rfl rfl rfl (by decide +kernel)
set_option maxRecDepth 65536 in
theorem w_c5 : (Jvm.Cond.code ({ cls := "java/util/BitSet", name := "initWords", desc := "(I)V" } : Jvm.MethodName) jdk_92_method_6_code (2 : Nat) (Option.none : Option Jvm.ClassFile.FieldType)).before args0 about1 = true := code_word (m := ⟨7, 3⟩) (meth := k7m3) (c := k7c3) (by decide +kernel) rfl rfl rfl (by decide +kernel)
set_option maxRecDepth 65536 in
theorem w_c6 : (Jvm.Cond.code ({ cls := "java/util/BitSet", name := "wordIndex", desc := "(I)I" } : Jvm.MethodName) jdk_92_method_1_code (1 : Nat) (Option.some Jvm.ClassFile.FieldType.int)).before args0 about1 = true := code_word (m := ⟨7, 0⟩) (meth := k7m0) (c := k7c0) (by decide +kernel) rfl rfl rfl (by decide +kernel)
set_option maxRecDepth 65536 in
theorem w_c7 : (Jvm.Cond.code ({ cls := "com/example/score_on_crawl/scoreoncrawl/engine/BreadthFirstSequenceHasNextPinLaw", name := "fetchTwo", desc := "(Lcom/example/score_on_crawl/scoreoncrawl/engine/BreadthFirstSequence;ZZZ[I)V" } : Jvm.MethodName) method_3_code (5 : Nat) (Option.none : Option Jvm.ClassFile.FieldType)).before args0 about1 = true := code_word (m := ⟨1, 2⟩) (meth := k1m2) (c := k1c2) (by decide +kernel) rfl rfl rfl (by decide +kernel)
set_option maxRecDepth 65536 in
theorem w_c8 : (Jvm.Cond.code ({ cls := "com/example/score_on_crawl/scoreoncrawl/engine/BreadthFirstSequence", name := "hasNext", desc := "()Z" } : Jvm.MethodName) prog_2_method_4_code (1 : Nat) (Option.some Jvm.ClassFile.FieldType.boolean)).before args0 about1 = true := code_word (m := ⟨3, 3⟩) (meth := k3m3) (c := k3c3) (by decide +kernel) rfl rfl rfl (by decide +kernel)
set_option maxRecDepth 65536 in
theorem w_c9 : (Jvm.Cond.code ({ cls := "com/example/score_on_crawl/scoreoncrawl/engine/BreadthFirstSequence", name := "added", desc := "(IZ)V" } : Jvm.MethodName) prog_2_method_2_code (3 : Nat) (Option.none : Option Jvm.ClassFile.FieldType)).before args0 about1 = true := code_word (m := ⟨3, 1⟩) (meth := k3m1) (c := k3c1) (by decide +kernel) rfl rfl rfl (by decide +kernel)
set_option maxRecDepth 65536 in
theorem w_c10 : (Jvm.Cond.code ({ cls := "com/example/score_on_crawl/scoreoncrawl/engine/BreadthFirstSequenceHasNextPinLaw", name := "fetchThree", desc := "(Lcom/example/score_on_crawl/scoreoncrawl/engine/BreadthFirstSequence;ZZZZ[I)V" } : Jvm.MethodName) method_4_code (6 : Nat) (Option.none : Option Jvm.ClassFile.FieldType)).before args0 about1 = true := code_word (m := ⟨1, 3⟩) (meth := k1m3) (c := k1c3) (by decide +kernel) rfl rfl rfl (by decide +kernel)
set_option maxRecDepth 65536 in
theorem w_c11 : (Jvm.Cond.code ({ cls := "com/example/score_on_crawl/scoreoncrawl/engine/BreadthFirstSequence", name := "fetched", desc := "(I[II)V" } : Jvm.MethodName) prog_2_method_3_code (4 : Nat) (Option.none : Option Jvm.ClassFile.FieldType)).before args0 about1 = true := code_word (m := ⟨3, 2⟩) (meth := k3m2) (c := k3c2) (by decide +kernel) rfl rfl rfl (by decide +kernel)
set_option maxRecDepth 65536 in
theorem w_c12 : (Jvm.Cond.code ({ cls := "com/example/score_on_crawl/scoreoncrawl/engine/FetchedPages", name := "add", desc := "(I)V" } : Jvm.MethodName) prog_8_method_2_code (2 : Nat) (Option.none : Option Jvm.ClassFile.FieldType)).before args0 about1 = true := code_word (m := ⟨4, 1⟩) (meth := k4m1) (c := k4c1) (by decide +kernel) rfl rfl rfl (by decide +kernel)
set_option maxRecDepth 65536 in
theorem w_c13 : (Jvm.Cond.code ({ cls := "java/util/BitSet", name := "set", desc := "(I)V" } : Jvm.MethodName) jdk_92_method_19_code (3 : Nat) (Option.none : Option Jvm.ClassFile.FieldType)).before args0 about1 = true := code_word (m := ⟨7, 6⟩) (meth := k7m6) (c := k7c6) (by decide +kernel) rfl rfl rfl (by decide +kernel)
set_option maxRecDepth 65536 in
theorem w_c14 : (Jvm.Cond.code ({ cls := "java/util/BitSet", name := "expandTo", desc := "(I)V" } : Jvm.MethodName) jdk_92_method_15_code (3 : Nat) (Option.none : Option Jvm.ClassFile.FieldType)).before args0 about1 = true := code_word (m := ⟨7, 5⟩) (meth := k7m5) (c := k7c5) (by decide +kernel) rfl rfl rfl (by decide +kernel)
set_option maxRecDepth 65536 in
theorem w_c15 : (Jvm.Cond.code ({ cls := "java/util/BitSet", name := "ensureCapacity", desc := "(I)V" } : Jvm.MethodName) jdk_92_method_14_code (3 : Nat) (Option.none : Option Jvm.ClassFile.FieldType)).before args0 about1 = true := code_word (m := ⟨7, 4⟩) (meth := k7m4) (c := k7c4) (by decide +kernel) rfl rfl rfl (by decide +kernel)
set_option maxRecDepth 65536 in
theorem w_c16 : (Jvm.Cond.code ({ cls := "java/util/BitSet", name := "checkInvariants", desc := "()V" } : Jvm.MethodName) jdk_92_method_2_code (1 : Nat) (Option.none : Option Jvm.ClassFile.FieldType)).before args0 about1 = true := code_word (m := ⟨7, 1⟩) (meth := k7m1) (c := k7c1) (by decide +kernel) rfl rfl rfl (by decide +kernel)
set_option maxRecDepth 65536 in
theorem w_c17 : (Jvm.Cond.code ({ cls := "com/example/score_on_crawl/scoreoncrawl/engine/FetchedPages", name := "nextUnfetched", desc := "(I)I" } : Jvm.MethodName) prog_8_method_3_code (2 : Nat) (Option.some Jvm.ClassFile.FieldType.int)).before args0 about1 = true := code_word (m := ⟨4, 2⟩) (meth := k4m2) (c := k4c2) (by decide +kernel) rfl rfl rfl (by decide +kernel)
set_option maxRecDepth 65536 in
theorem w_c18 : (Jvm.Cond.code ({ cls := "java/util/BitSet", name := "nextClearBit", desc := "(I)I" } : Jvm.MethodName) jdk_92_method_29_code (5 : Nat) (Option.some Jvm.ClassFile.FieldType.int)).before args0 about1 = true := code_word (m := ⟨7, 7⟩) (meth := k7m7) (c := k7c7) (by decide +kernel) rfl rfl rfl (by decide +kernel)
set_option maxRecDepth 65536 in
theorem w_c19 : (Jvm.Cond.code ({ cls := "java/lang/Long", name := "numberOfTrailingZeros", desc := "(J)I" } : Jvm.MethodName) jdk_35_method_49_code (3 : Nat) (Option.some Jvm.ClassFile.FieldType.int)).before args0 about1 = true := code_word (m := ⟨12, 0⟩) (meth := k12m0) (c := k12c0) (by decide +kernel) rfl rfl rfl (by decide +kernel)
set_option maxRecDepth 65536 in
theorem w_c20 : (Jvm.Cond.code ({ cls := "java/lang/Integer", name := "numberOfTrailingZeros", desc := "(I)I" } : Jvm.MethodName) jdk_33_method_48_code (2 : Nat) (Option.some Jvm.ClassFile.FieldType.int)).before args0 about1 = true := code_word (m := ⟨13, 0⟩) (meth := k13m0) (c := k13c0) (by decide +kernel) rfl rfl rfl (by decide +kernel)
def codes1 : List Jvm.Cond := [Jvm.Cond.code x code maxLocals ret, Jvm.Cond.code ({ cls := "com/example/score_on_crawl/scoreoncrawl/engine/BreadthFirstSequence", name := "<init>", desc := "()V" } : Jvm.MethodName) prog_2_method_1_code (1 : Nat) (Option.none : Option Jvm.ClassFile.FieldType), Jvm.Cond.code ({ cls := "java/lang/Object", name := "<init>", desc := "()V" } : Jvm.MethodName) object_method_1_code (1 : Nat) (Option.none : Option Jvm.ClassFile.FieldType), Jvm.Cond.code ({ cls := "com/example/score_on_crawl/scoreoncrawl/engine/FetchedPages", name := "<init>", desc := "()V" } : Jvm.MethodName) prog_8_method_1_code (1 : Nat) (Option.none : Option Jvm.ClassFile.FieldType), Jvm.Cond.code ({ cls := "java/util/BitSet", name := "<init>", desc := "()V" } : Jvm.MethodName) jdk_92_method_4_code (1 : Nat) (Option.none : Option Jvm.ClassFile.FieldType), Jvm.Cond.code ({ cls := "java/util/BitSet", name := "initWords", desc := "(I)V" } : Jvm.MethodName) jdk_92_method_6_code (2 : Nat) (Option.none : Option Jvm.ClassFile.FieldType), Jvm.Cond.code ({ cls := "java/util/BitSet", name := "wordIndex", desc := "(I)I" } : Jvm.MethodName) jdk_92_method_1_code (1 : Nat) (Option.some Jvm.ClassFile.FieldType.int), Jvm.Cond.code ({ cls := "com/example/score_on_crawl/scoreoncrawl/engine/BreadthFirstSequenceHasNextPinLaw", name := "fetchTwo", desc := "(Lcom/example/score_on_crawl/scoreoncrawl/engine/BreadthFirstSequence;ZZZ[I)V" } : Jvm.MethodName) method_3_code (5 : Nat) (Option.none : Option Jvm.ClassFile.FieldType), Jvm.Cond.code ({ cls := "com/example/score_on_crawl/scoreoncrawl/engine/BreadthFirstSequence", name := "hasNext", desc := "()Z" } : Jvm.MethodName) prog_2_method_4_code (1 : Nat) (Option.some Jvm.ClassFile.FieldType.boolean), Jvm.Cond.code ({ cls := "com/example/score_on_crawl/scoreoncrawl/engine/BreadthFirstSequence", name := "added", desc := "(IZ)V" } : Jvm.MethodName) prog_2_method_2_code (3 : Nat) (Option.none : Option Jvm.ClassFile.FieldType), Jvm.Cond.code ({ cls := "com/example/score_on_crawl/scoreoncrawl/engine/BreadthFirstSequenceHasNextPinLaw", name := "fetchThree", desc := "(Lcom/example/score_on_crawl/scoreoncrawl/engine/BreadthFirstSequence;ZZZZ[I)V" } : Jvm.MethodName) method_4_code (6 : Nat) (Option.none : Option Jvm.ClassFile.FieldType), Jvm.Cond.code ({ cls := "com/example/score_on_crawl/scoreoncrawl/engine/BreadthFirstSequence", name := "fetched", desc := "(I[II)V" } : Jvm.MethodName) prog_2_method_3_code (4 : Nat) (Option.none : Option Jvm.ClassFile.FieldType), Jvm.Cond.code ({ cls := "com/example/score_on_crawl/scoreoncrawl/engine/FetchedPages", name := "add", desc := "(I)V" } : Jvm.MethodName) prog_8_method_2_code (2 : Nat) (Option.none : Option Jvm.ClassFile.FieldType), Jvm.Cond.code ({ cls := "java/util/BitSet", name := "set", desc := "(I)V" } : Jvm.MethodName) jdk_92_method_19_code (3 : Nat) (Option.none : Option Jvm.ClassFile.FieldType), Jvm.Cond.code ({ cls := "java/util/BitSet", name := "expandTo", desc := "(I)V" } : Jvm.MethodName) jdk_92_method_15_code (3 : Nat) (Option.none : Option Jvm.ClassFile.FieldType), Jvm.Cond.code ({ cls := "java/util/BitSet", name := "ensureCapacity", desc := "(I)V" } : Jvm.MethodName) jdk_92_method_14_code (3 : Nat) (Option.none : Option Jvm.ClassFile.FieldType), Jvm.Cond.code ({ cls := "java/util/BitSet", name := "checkInvariants", desc := "()V" } : Jvm.MethodName) jdk_92_method_2_code (1 : Nat) (Option.none : Option Jvm.ClassFile.FieldType), Jvm.Cond.code ({ cls := "com/example/score_on_crawl/scoreoncrawl/engine/FetchedPages", name := "nextUnfetched", desc := "(I)I" } : Jvm.MethodName) prog_8_method_3_code (2 : Nat) (Option.some Jvm.ClassFile.FieldType.int), Jvm.Cond.code ({ cls := "java/util/BitSet", name := "nextClearBit", desc := "(I)I" } : Jvm.MethodName) jdk_92_method_29_code (5 : Nat) (Option.some Jvm.ClassFile.FieldType.int), Jvm.Cond.code ({ cls := "java/lang/Long", name := "numberOfTrailingZeros", desc := "(J)I" } : Jvm.MethodName) jdk_35_method_49_code (3 : Nat) (Option.some Jvm.ClassFile.FieldType.int), Jvm.Cond.code ({ cls := "java/lang/Integer", name := "numberOfTrailingZeros", desc := "(I)I" } : Jvm.MethodName) jdk_33_method_48_code (2 : Nat) (Option.some Jvm.ClassFile.FieldType.int)]
set_option maxRecDepth 65536 in
theorem codes_eq : words1.filter isCode = codes1 := rfl
theorem w_codes : ∀ c ∈ words1.filter isCode, c.before args0 about1 = true := by
  rw [codes_eq]
  intro c hc
  simp only [codes1, List.mem_cons, List.not_mem_nil, or_false] at hc
  rcases hc with rfl | rfl | rfl | rfl | rfl | rfl | rfl | rfl | rfl | rfl | rfl | rfl | rfl | rfl | rfl | rfl | rfl | rfl | rfl | rfl | rfl
  · exact w_c0
  · exact w_c1
  · exact w_c2
  · exact w_c3
  · exact w_c4
  · exact w_c5
  · exact w_c6
  · exact w_c7
  · exact w_c8
  · exact w_c9
  · exact w_c10
  · exact w_c11
  · exact w_c12
  · exact w_c13
  · exact w_c14
  · exact w_c15
  · exact w_c16
  · exact w_c17
  · exact w_c18
  · exact w_c19
  · exact w_c20
set_option maxRecDepth 65536 in
theorem w_t1 : (words1.take 24).all (fun c => isCode c || c.before args0 about1) = true := by decide +kernel
set_option maxRecDepth 65536 in
theorem w_t2 : ((words1.drop 24).take 24).all (fun c => isCode c || c.before args0 about1) = true := by decide +kernel
set_option maxRecDepth 65536 in
theorem w_t3 : (((words1.drop 24).drop 24).take 24).all (fun c => isCode c || c.before args0 about1) = true := by decide +kernel
set_option maxRecDepth 65536 in
theorem w_t4 : ((((words1.drop 24).drop 24).drop 24).take 24).all (fun c => isCode c || c.before args0 about1) = true := by decide +kernel
set_option maxRecDepth 65536 in
theorem w_t5 : ((((words1.drop 24).drop 24).drop 24).drop 24).all (fun c => isCode c || c.before args0 about1) = true := by decide +kernel
theorem w_tables : (allAtoms (Jvm.Cond.code x code maxLocals ret :: tables_1)).before args0 about1 = true := by
  rw [allAtoms_all]
  show words1.all (fun c => c.before args0 about1) = true
  refine all_split ?_ w_codes
  rw [← List.take_append_drop 24 words1, List.all_append, w_t1, ← List.take_append_drop 24 (words1.drop 24), List.all_append, w_t2, ← List.take_append_drop 24 ((words1.drop 24).drop 24), List.all_append, w_t3, ← List.take_append_drop 24 (((words1.drop 24).drop 24).drop 24), List.all_append, w_t4, w_t5]
  rfl
set_option maxRecDepth 65536 in
theorem w_rest : rest_1_c.before args0 about1 = true := by decide +kernel
set_option maxRecDepth 65536 in
theorem w_case : (Jvm.Cond.and given_1 narrow_1).before args0 about1 = true := by decide +kernel
theorem w_applies : (headSpec (Jvm.Cond.code x code maxLocals ret :: tables_1) room_1).applies x e0.platform about1 = true :=
  (Spec.applies_iff w_frames).mpr ⟨w_running, w_runnable, w_alone, w_named, w_hears, w_ripe, w_room, w_tables⟩
theorem atStart : AtStart classFile x code maxLocals ret World_1 tables_1 room_1 Calls_1 rest_1 Pre_1 launch0 p0 e0 about1 theMethod args0 below0 :=
  ⟨lists_1, trivial, launch0.admits_env _ _ _, launch0.least_env, fairChoices_fair.cas, fairChoices_fair.clock, w_frames, w_args, w_heap, w_applies, trivial, w_rest, w_case⟩
end start1
theorem witness_1 : WitnessClaimed_1 := ⟨start1.p0, start1.e0, start1.about1, start1.theMethod, start1.args0, start1.below0, start1.atStart⟩
end Jvm.Pilot.@@N@@
