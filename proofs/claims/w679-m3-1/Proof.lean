import JvmDerived
import JvmDerived.Pilot.@@N@@Statement
import JvmDerived.Pilot.@@N@@Code
set_option linter.unusedVariables false
set_option linter.unusedSimpArgs false
namespace Jvm.RoadKit
open Sem ClassFile Op Lib Jvm.Stand Jvm.Free Jvm.LawKit
section OwnKit
variable {p : Program} {l : Launch} {e : Env} {R : Room} {s : State} {m : MethodId} {args : Array Value} {below : List Frame} {meth : Method} {c : Code} {T : State} {locs : List Loc} {cells slots : Nat} {Q : Option Value → Heap → List Loc → Prop} {rc rs : Nat}
theorem retI (X : Stand p l e R s m args below meth c T locs cells slots) (hx : p.tables.exec = Jvm.exec) {pc : Nat} {Ls : Array Slot} {z : Int32} {rest : List Value} (hret : meth.sig.returnType = some .int) (hd : decode c.code pc = .ok (.ireturn, 1)) {fs : List Frame}
    (hl : ∀ (f : JFrame) (acts : List Action), f.method = m → f.locked = none → f.entered = [] → (doReturn e (T.setTop f) acts (some (.int z))).1 = T.setFrames fs) : Steps p.tables e below (T.setTop (mkF m pc Ls (.int z :: rest))) (T.setFrames fs) := by
  have hm' : T.vm.method? m = some meth := X.method'
  have hn : narrow .int (.int z) = .int z := rfl
  show Steps p.tables e below (T.setTop { method := m, pc := pc, locals := Ls, stack := _ :: rest, locked := none }) _
  jvm_step X.here [X.here.top, hx, hd, hm', hret, hn]
  first | (intro acts; rw [hl _ acts rfl rfl rfl]) | rw [hl _ _ rfl rfl rfl]
  exact Steps.refl _
theorem own_retA (X : Stand p l e R s m args below meth c T locs cells slots) (hx : p.tables.exec = Jvm.exec) {pc : Nat} {Ls : Array Slot} {w : Value} {ty : FieldType} {rest : List Value} (hw : w.isRef = true) (hty : ty.isReference = true) (hret : meth.sig.returnType = some ty) (hd : decode c.code pc = .ok (.areturn, 1)) {fs : List Frame}
    (hl : ∀ (f : JFrame) (acts : List Action), f.method = m → f.locked = none → f.entered = [] → (doReturn e (T.setTop f) acts (some w)).1 = T.setFrames fs) : Steps p.tables e below (T.setTop (mkF m pc Ls (w :: rest))) (T.setFrames fs) := by
  have hm' : T.vm.method? m = some meth := X.method'
  show Steps p.tables e below (T.setTop { method := m, pc := pc, locals := Ls, stack := _ :: rest, locked := none }) _
  jvm_step X.here [X.here.top, hx, hd, hm', hret, hw, hty]
  first | (intro acts; rw [hl _ acts rfl rfl rfl]) | rw [hl _ _ rfl rfl rfl]
  exact Steps.refl _
theorem own_retL (X : Stand p l e R s m args below meth c T locs cells slots) (hx : p.tables.exec = Jvm.exec) {pc : Nat} {Ls : Array Slot} {z : Int64} {rest : List Value} (hret : meth.sig.returnType = some .long) (hd : decode c.code pc = .ok (.lreturn, 1)) {fs : List Frame}
    (hl : ∀ (f : JFrame) (acts : List Action), f.method = m → f.locked = none → f.entered = [] → (doReturn e (T.setTop f) acts (some (.long z))).1 = T.setFrames fs) : Steps p.tables e below (T.setTop (mkF m pc Ls (.long z :: rest))) (T.setFrames fs) := by
  have hm' : T.vm.method? m = some meth := X.method'
  show Steps p.tables e below (T.setTop { method := m, pc := pc, locals := Ls, stack := _ :: rest, locked := none }) _
  jvm_step X.here [X.here.top, hx, hd, hm', hret]
  first | (intro acts; rw [hl _ acts rfl rfl rfl]) | rw [hl _ _ rfl rfl rfl]
  exact Steps.refl _
theorem own_retDbl (X : Stand p l e R s m args below meth c T locs cells slots) (hx : p.tables.exec = Jvm.exec) {pc : Nat} {Ls : Array Slot} {z : UInt64} {rest : List Value} (hret : meth.sig.returnType = some .double) (hd : decode c.code pc = .ok (.dreturn, 1)) {fs : List Frame}
    (hl : ∀ (f : JFrame) (acts : List Action), f.method = m → f.locked = none → f.entered = [] → (doReturn e (T.setTop f) acts (some (.double z))).1 = T.setFrames fs) : Steps p.tables e below (T.setTop (mkF m pc Ls (.double z :: rest))) (T.setFrames fs) := by
  have hm' : T.vm.method? m = some meth := X.method'
  show Steps p.tables e below (T.setTop { method := m, pc := pc, locals := Ls, stack := _ :: rest, locked := none }) _
  jvm_step X.here [X.here.top, hx, hd, hm', hret]
  first | (intro acts; rw [hl _ acts rfl rfl rfl]) | rw [hl _ _ rfl rfl rfl]
  exact Steps.refl _
/-- what is left to be shown from the state A on: the run comes back, and Q holds of what it leaves -/
def OwnG (p : Program) (e : Env) (below : List Frame) (s : State) (Q : Option Value → Heap → List Loc → Prop) (rc rs : Nat) (A : State) : Prop :=
  ∃ s₂ o, Steps p.tables e below A s₂ ∧ s₂.status = .running ∧ Ended s₂ below o ∧ ∃ v L, o = .returned v ∧ Q v s₂.heap L ∧ FrameEnd s o s₂ L rc rs
theorem own_by {A B : State} (k : ∀ t, Steps p.tables e below B t → Steps p.tables e below A t) (h : OwnG p e below s Q rc rs B) : OwnG p e below s Q rc rs A := by
  obtain ⟨s₂, o, h1, r⟩ := h
  exact ⟨s₂, o, k _ h1, r⟩
theorem own_out (X : Stand p l e R s m args below meth c T locs cells slots) {v : Option Value} (hv : meth.sig.returnType = none → v = none) (hlk : meth.locks = false) {A : State}
    (k : ∀ fs, (∀ (f : JFrame) (acts : List Action), f.method = m → f.locked = none → f.entered = [] → (doReturn e (T.setTop f) acts v).1 = T.setFrames fs) → Steps p.tables e below A (T.setFrames fs)) (hQ : Q v T.heap locs) (hc : cells ≤ rc) (hs : slots ≤ rs) : OwnG p e below s Q rc rs A := by
  obtain ⟨fs, hr, hrun, hended, hW, hsame⟩ := X.leave (v := v) hv hlk
  exact ⟨_, _, k fs hr, hrun, hended, _, _, rfl, hQ, ⟨_, rfl⟩, hW, hsame.mono hc hs⟩
theorem own_outI (X : Stand p l e R s m args below meth c T locs cells slots) (hx : p.tables.exec = Jvm.exec) {pc : Nat} {Ls : Array Slot} {z : Int32} {rest : List Value} (hret : meth.sig.returnType = some .int) (hlk : meth.locks = false) (hd : decode c.code pc = .ok (.ireturn, 1)) (hQ : Q (some (.int z)) T.heap locs) (hc : cells ≤ rc) (hs : slots ≤ rs) :
    OwnG p e below s Q rc rs (T.setTop (mkF m pc Ls (.int z :: rest))) :=
  own_out X (v := some (.int z)) (fun h => by rw [hret] at h; cases h) hlk (fun fs hr => retI X hx hret hd hr) hQ hc hs
theorem own_outA (X : Stand p l e R s m args below meth c T locs cells slots) (hx : p.tables.exec = Jvm.exec) {pc : Nat} {Ls : Array Slot} {w : Value} {ty : FieldType} {rest : List Value} (hw : w.isRef = true) (hty : ty.isReference = true) (hret : meth.sig.returnType = some ty) (hlk : meth.locks = false) (hd : decode c.code pc = .ok (.areturn, 1)) (hQ : Q (some w) T.heap locs) (hc : cells ≤ rc) (hs : slots ≤ rs) :
    OwnG p e below s Q rc rs (T.setTop (mkF m pc Ls (w :: rest))) :=
  own_out X (v := some w) (fun h => by rw [hret] at h; cases h) hlk (fun fs hr => own_retA X hx hw hty hret hd hr) hQ hc hs
theorem own_outL (X : Stand p l e R s m args below meth c T locs cells slots) (hx : p.tables.exec = Jvm.exec) {pc : Nat} {Ls : Array Slot} {z : Int64} {rest : List Value} (hret : meth.sig.returnType = some .long) (hlk : meth.locks = false) (hd : decode c.code pc = .ok (.lreturn, 1)) (hQ : Q (some (.long z)) T.heap locs) (hc : cells ≤ rc) (hs : slots ≤ rs) :
    OwnG p e below s Q rc rs (T.setTop (mkF m pc Ls (.long z :: rest))) :=
  own_out X (v := some (.long z)) (fun h => by rw [hret] at h; cases h) hlk (fun fs hr => own_retL X hx hret hd hr) hQ hc hs
theorem own_outD (X : Stand p l e R s m args below meth c T locs cells slots) (hx : p.tables.exec = Jvm.exec) {pc : Nat} {Ls : Array Slot} {z : UInt64} {rest : List Value} (hret : meth.sig.returnType = some .double) (hlk : meth.locks = false) (hd : decode c.code pc = .ok (.dreturn, 1)) (hQ : Q (some (.double z)) T.heap locs) (hc : cells ≤ rc) (hs : slots ≤ rs) :
    OwnG p e below s Q rc rs (T.setTop (mkF m pc Ls (.double z :: rest))) :=
  own_out X (v := some (.double z)) (fun h => by rw [hret] at h; cases h) hlk (fun fs hr => own_retDbl X hx hret hd hr) hQ hc hs
theorem own_outV (X : Stand p l e R s m args below meth c T locs cells slots) (hx : p.tables.exec = Jvm.exec) {pc : Nat} {Ls : Array Slot} (hret : meth.sig.returnType = none) (hlk : meth.locks = false) (hd : decode c.code pc = .ok (.return_, 1)) (hQ : Q none T.heap locs) (hc : cells ≤ rc) (hs : slots ≤ rs) :
    OwnG p e below s Q rc rs (T.setTop (mkF m pc Ls [])) :=
  own_out X (v := none) (fun _ => rfl) hlk (fun fs hr => X.returnOut hx hret hd hr) hQ hc hs
theorem own_outN (X : Stand p l e R s m args below meth c T locs cells slots) (hx : p.tables.exec = Jvm.exec) {pc : Nat} {Ls : Array Slot} {z z' : Int32} {t : FieldType} {rest : List Value} (hret : meth.sig.returnType = some t) (ht : t = .boolean ∨ t = .byte ∨ t = .char ∨ t = .short) (hlk : meth.locks = false) (hd : decode c.code pc = .ok (.ireturn, 1)) (hz : nar t z = z') (hQ : Q (some (.int z')) T.heap locs) (hc : cells ≤ rc) (hs : slots ≤ rs) :
    OwnG p e below s Q rc rs (T.setTop (mkF m pc Ls (.int z :: rest))) := by
  subst hz
  exact own_out X (v := some (.int (nar t z))) (fun h => by rw [hret] at h; cases h) hlk (fun fs hr => retN X hx (t := t) hret (by rcases ht with rfl | rfl | rfl | rfl <;> simp) hd hr) hQ hc hs
theorem own_met {y : MethodName} {bytes : ByteArray} {maxL : Nat} {ret : Option FieldType} {rm : Room} {ws : List Cond} {as' : Array Value} {Z : State} {h0 : Heap} (hpl : plainFor y = true)
    (body : ∀ (p : Program) (e : Env) (s : State) (m : MethodId) (below : List Frame) (meth : Method) (c : Code) (s₁ : State), p.tables.exec = Jvm.exec → c.code = bytes → c.maxLocals = maxL → meth.sig.returnType = ret → meth.locks = false → s.vm.findClass y.cls = some m.cls → meth.name = y.name → Z.Warmed39 s.vm →
      Stand p l e rm s m as' below meth c s₁ [] 0 0 → s₁.heap = h0 → OwnG p e below s Q rm.cells rm.slots (s₁.setTop (entryFrame m as' maxL))) :
    MetFree l y (head1 (Cond.code y bytes maxL ret :: ws) rm) (fun a U => a = as' ∧ Z.Warmed39 U.vm ∧ U.heap = h0) (fun _ _ _ _ _ => True) (fun _ U o U' => ∃ v L, o = .returned v ∧ Q v U'.heap L ∧ FrameEnd U o U' L rm.cells rm.slots) := by
  refine MetFree.of_bodySF hpl hisR ?_
  intro p e s m args below meth c s₁ Bd hml0 hP hK
  obtain ⟨rfl, hZ, hh⟩ := hP
  have e0 : s₁.heap = h0 := by rw [← hh, Bd.state]; rfl
  exact body p e s m below meth c s₁ Bd.exec Bd.bytes hml0 Bd.returns Bd.notSynchronized (findClass_of_methodNamed Bd.named) (name_of_methodNamed Bd.named Bd.method).1 hZ (Stand.of_body Bd) e0
theorem own_selp {Z s : State} {a0 args : Array Value} {y : MethodName} {n : Nat} (hZ : Z.Warmed39 s.vm) (wi : (Cond.instantiable y.cls n).before a0 Z = true) (wp : (Cond.privateMethod y).before a0 Z = true) (wm : (Cond.instanceMethod y).before a0 Z = true) (hy : y.cls ≠ "java/lang/invoke/MethodHandle" ∧ y.cls ≠ "java/lang/invoke/VarHandle") : (Cond.selects y.cls y y).before args s = true := by
  obtain ⟨c, k, h1, h2, -, h4, -⟩ := Cond.instantiable_spec (mv (args := args) hZ wi)
  exact selects_self_of_private h1 h2 (Bool.or_eq_false_iff.mp h4).1 (Cond.privateMethod_at (mvP hZ wp (args := #[]))) (mvT hZ wm) hy
end OwnKit
end Jvm.RoadKit
namespace Jvm.RoadKit
open Sem ClassFile Op Lib Jvm.Stand Jvm.Free Jvm.LawKit
section OwnArr
variable {p : Program} {l : Launch} {e : Env} {R : Room} {s : State} {m : MethodId} {args : Array Value} {below : List Frame} {meth : Method} {c : Code} {T : State} {locs : List Loc} {cells slots : Nat} {Z : State} {h h' : Heap} {a b : Addr} {ty : FieldType} {n : Nat} {f : Nat → Value}
/-- the array at a: its kind, its length, its components as a function of the place -/
def OwnA (Z : State) (h : Heap) (a : Addr) (ty : FieldType) (n : Nat) (f : Nat → Value) : Prop := ∃ c : Cell, Arr Z h a c ty ∧ c.slots.size = n ∧ n < 2 ^ 31 ∧ ∀ k, k < n → c.slots[k]? = some (f k)
def ownSet (f : Nat → Value) (i : Nat) (v : Value) : Nat → Value := fun k => if k = i then v else f k
theorem OwnA.lt (A : OwnA Z h a ty n f) : a < h.size := by obtain ⟨c, A, -⟩ := A; exact A.lt
theorem OwnA.ext (E : Ext h h') (A : OwnA Z h a ty n f) : OwnA Z h' a ty n f := by obtain ⟨c, A, r⟩ := A; exact ⟨c, A.ext E, r⟩
theorem OwnA.other {sl : Nat} {v : Value} (W : Wr h h' b sl v) (A : OwnA Z h a ty n f) (q : a ≠ b) : OwnA Z h' a ty n f := by obtain ⟨c, A, r⟩ := A; exact ⟨c, A.other W q, r⟩
theorem OwnA.keep {ws : List Addr} (A : OwnA Z h a ty n f) (K : Keep h h' ws) (q : a ∉ ws) : OwnA Z h' a ty n f := by obtain ⟨c, A, r⟩ := A; exact ⟨c, ⟨K.2.1 a c A.1 q, A.2⟩, r⟩
theorem OwnA.set {i : Nat} {v : Value} (W : Wr h h' a i v) (A : OwnA Z h a ty n f) (hi : i < n) : OwnA Z h' a ty n (ownSet f i v) := by
  obtain ⟨c, A, hn, hb, r⟩ := A
  refine ⟨_, A.same W, by simp [Cell.setSlot, hn], hb, fun k hk => ?_⟩
  by_cases e : k = i
  · subst e
    simp [Cell.setSlot, ownSet, hn, hi]
  · simp only [ownSet, if_neg e]
    rw [← r k hk]
    exact Array.getElem?_setIfInBounds_ne (Ne.symm e)
theorem OwnA.new {k : ClassId} {z : Int32} (A : Arr Z h a (newA k ty z) ty) {n : Nat} (q : ¬ z < 0) (hn : z.toNatClampNeg = n) : OwnA Z h a ty n (fun _ => defaultValue ty) := by
  subst hn
  refine ⟨_, A, sz_new _ _ _, (back32 q).2, fun i hi => ?_⟩
  simp [newA, hi]
theorem OwnA.bound (A : OwnA Z h a ty n f) : n < 2 ^ 31 := by obtain ⟨_, _, _, hb, _⟩ := A; exact hb
theorem OwnA.congr {f' : Nat → Value} (A : OwnA Z h a ty n f) (q : ∀ k, k < n → f k = f' k) : OwnA Z h a ty n f' := by
  obtain ⟨c, A, hn, hb, r⟩ := A
  exact ⟨c, A, hn, hb, fun k hk => by rw [r k hk, q k hk]⟩
theorem own_inb {c : Cell} {j : Int32} {i : Nat} (hn : c.slots.size = n) (hj : ¬ j < 0 ∧ j.toNatClampNeg = i ∧ i < n) : ¬ (j < 0 ∨ c.slots.size ≤ j.toNatClampNeg) := by
  rintro (q | q)
  · exact hj.1 q
  · rw [hn, hj.2.1] at q; exact absurd hj.2.2 (Nat.not_lt.mpr q)
theorem own_ldI (X : Stand p l e R s m args below meth c T locs cells slots) (hx : p.tables.exec = Jvm.exec) (hZ : Z.Warmed39 s.vm) (eT : T.heap = h) (A : OwnA Z h a .int n f) {j : Int32} {i : Nat} (hj : ¬ j < 0 ∧ j.toNatClampNeg = i ∧ i < n) {v : Value} (hv : f i = v) {g : JFrame} (hg : g.method = m) {rest : List Value} (hs : g.stack = .int j :: .ref a :: rest) (hd : decode c.code g.pc = .ok (.iaload, 1)) (target : State)
    (k : Steps p.tables e below (T.setTop { g with pc := g.pc + 1, stack := v :: rest }) target) : Steps p.tables e below (T.setTop g) target := by
  obtain ⟨cl, A, hn, hb, r⟩ := A
  exact X.iaload hx (j := j) (v := v) (by rw [eT]; exact A.1) (State.isArrayOf_alike hZ.alike A.2.1) A.2.2 (own_inb hn hj) (by rw [hj.2.1, r i hj.2.2, hv]) hg hs hd target k
theorem own_ldB (X : Stand p l e R s m args below meth c T locs cells slots) (hx : p.tables.exec = Jvm.exec) (hZ : Z.Warmed39 s.vm) (eT : T.heap = h) (A : OwnA Z h a .byte n f) {j : Int32} {i : Nat} (hj : ¬ j < 0 ∧ j.toNatClampNeg = i ∧ i < n) {v : Value} (hv : f i = v) {g : JFrame} (hg : g.method = m) {rest : List Value} (hs : g.stack = .int j :: .ref a :: rest) (hd : decode c.code g.pc = .ok (.baload, 1)) (target : State)
    (k : Steps p.tables e below (T.setTop { g with pc := g.pc + 1, stack := v :: rest }) target) : Steps p.tables e below (T.setTop g) target := by
  obtain ⟨cl, A, hn, hb, r⟩ := A
  exact X.baloadBytes hx (j := j) (v := v) (by rw [eT]; exact A.1) (State.isArrayOf_alike hZ.alike A.2.1) A.2.2 (own_inb hn hj) (by rw [hj.2.1, r i hj.2.2, hv]) hg hs hd target k
theorem own_ldJ (X : Stand p l e R s m args below meth c T locs cells slots) (hx : p.tables.exec = Jvm.exec) (hZ : Z.Warmed39 s.vm) (eT : T.heap = h) (A : OwnA Z h a .long n f) {j : Int32} {i : Nat} (hj : ¬ j < 0 ∧ j.toNatClampNeg = i ∧ i < n) {v : Value} (hv : f i = v) {g : JFrame} (hg : g.method = m) {rest : List Value} (hs : g.stack = .int j :: .ref a :: rest) (hd : decode c.code g.pc = .ok (.laload, 1)) (target : State)
    (k : Steps p.tables e below (T.setTop { g with pc := g.pc + 1, stack := v :: rest }) target) : Steps p.tables e below (T.setTop g) target := by
  obtain ⟨cl, A, hn, hb, r⟩ := A
  exact X.laload hx (j := j) (v := v) (by rw [eT]; exact A.1) (State.isArrayOf_alike hZ.alike A.2.1) A.2.2 (own_inb hn hj) (by rw [hj.2.1, r i hj.2.2, hv]) hg hs hd target k
theorem own_ldR (X : Stand p l e R s m args below meth c T locs cells slots) (hx : p.tables.exec = Jvm.exec) (hZ : Z.Warmed39 s.vm) (eT : T.heap = h) (A : OwnA Z h a ty n f) {j : Int32} {i : Nat} (hj : ¬ j < 0 ∧ j.toNatClampNeg = i ∧ i < n) {v : Value} (hv : f i = v) (hty : ty.isReference = true) {g : JFrame} (hg : g.method = m) {rest : List Value} (hs : g.stack = .int j :: .ref a :: rest) (hd : decode c.code g.pc = .ok (.aaload, 1)) (target : State)
    (k : Steps p.tables e below (T.setTop { g with pc := g.pc + 1, stack := v :: rest }) target) : Steps p.tables e below (T.setTop g) target := by
  obtain ⟨cl, A, hn, hb, r⟩ := A
  exact X.aaload hx (j := j) (v := v) (by rw [eT]; exact A.1) (State.isArrayOf_alike hZ.alike A.2.1) hty A.2.2 (own_inb hn hj) (by rw [hj.2.1, r i hj.2.2, hv]) hg hs hd target k
theorem own_len (X : Stand p l e R s m args below meth c T locs cells slots) (hx : p.tables.exec = Jvm.exec) (hZ : Z.Warmed39 s.vm) (eT : T.heap = h) (A : OwnA Z h a ty n f) {z : Int32} (hz : n.toInt32 = z) {g : JFrame} (hg : g.method = m) {rest : List Value} (hs : g.stack = .ref a :: rest) (hd : decode c.code g.pc = .ok (.arraylength, 1)) (target : State)
    (k : Steps p.tables e below (T.setTop { g with pc := g.pc + 1, stack := .int z :: rest }) target) : Steps p.tables e below (T.setTop g) target := by
  obtain ⟨cl, A, hn, hb, r⟩ := A
  refine X.arraylength hx (by rw [eT]; exact A.1) (State.isArrayOf_alike hZ.alike A.2.1) hg hs hd target ?_
  rw [hn, hz]; exact k
theorem own_stI (X : Stand p l e R s m args below meth c T locs cells slots) (hx : p.tables.exec = Jvm.exec) (hZ : Z.Warmed39 s.vm) (eT : T.heap = h) (A : OwnA Z h a .int n f) {j : Int32} {i : Nat} (hj : ¬ j < 0 ∧ j.toNatClampNeg = i ∧ i < n) {x : Int32} {g : JFrame} (hg : g.method = m) {rest : List Value} (hs : g.stack = .int x :: .int j :: .ref a :: rest) (hd : decode c.code g.pc = .ok (.iastore, 1)) :
    ∃ T' h', Stand p l e R s m args below meth c T' (locs ++ [⟨a, i⟩]) cells slots ∧ T'.heap = h' ∧ Wr h h' a i (.int x) ∧ OwnA Z h' a .int n (ownSet f i (.int x)) ∧ ∀ target, Steps p.tables e below (T'.setTop { g with pc := g.pc + 1, stack := rest }) target → Steps p.tables e below (T.setTop g) target := by
  obtain ⟨cl, A', hn, hb, r⟩ := A
  obtain ⟨T', h', X', e', W, st⟩ := stI X hx hZ eT A' (j := j) (x := x) (own_inb hn hj) hg hs hd
  rw [hj.2.1] at X' W
  exact ⟨T', h', X', e', W, OwnA.set W ⟨cl, A', hn, hb, r⟩ hj.2.2, st⟩
theorem own_stJ (X : Stand p l e R s m args below meth c T locs cells slots) (hx : p.tables.exec = Jvm.exec) (hZ : Z.Warmed39 s.vm) (eT : T.heap = h) (A : OwnA Z h a .long n f) {j : Int32} {i : Nat} (hj : ¬ j < 0 ∧ j.toNatClampNeg = i ∧ i < n) {x : Int64} {g : JFrame} (hg : g.method = m) {rest : List Value} (hs : g.stack = .long x :: .int j :: .ref a :: rest) (hd : decode c.code g.pc = .ok (.lastore, 1)) :
    ∃ T' h', Stand p l e R s m args below meth c T' (locs ++ [⟨a, i⟩]) cells slots ∧ T'.heap = h' ∧ Wr h h' a i (.long x) ∧ OwnA Z h' a .long n (ownSet f i (.long x)) ∧ ∀ target, Steps p.tables e below (T'.setTop { g with pc := g.pc + 1, stack := rest }) target → Steps p.tables e below (T.setTop g) target := by
  obtain ⟨cl, A', hn, hb, r⟩ := A
  obtain ⟨T', h', X', e', W, st⟩ := stJ X hx hZ eT A' (j := j) (x := x) (own_inb hn hj) hg hs hd
  rw [hj.2.1] at X' W
  exact ⟨T', h', X', e', W, OwnA.set W ⟨cl, A', hn, hb, r⟩ hj.2.2, st⟩
theorem own_stB (X : Stand p l e R s m args below meth c T locs cells slots) (hx : p.tables.exec = Jvm.exec) (hZ : Z.Warmed39 s.vm) (eT : T.heap = h) (A : OwnA Z h a .byte n f) {j : Int32} {i : Nat} (hj : ¬ j < 0 ∧ j.toNatClampNeg = i ∧ i < n) {x : Int32} {g : JFrame} (hg : g.method = m) {rest : List Value} (hs : g.stack = .int x :: .int j :: .ref a :: rest) (hd : decode c.code g.pc = .ok (.bastore, 1)) :
    ∃ T' h', Stand p l e R s m args below meth c T' (locs ++ [⟨a, i⟩]) cells slots ∧ T'.heap = h' ∧ Wr h h' a i (.int (nar .byte x)) ∧ OwnA Z h' a .byte n (ownSet f i (.int (nar .byte x))) ∧ ∀ target, Steps p.tables e below (T'.setTop { g with pc := g.pc + 1, stack := rest }) target → Steps p.tables e below (T.setTop g) target := by
  obtain ⟨cl, A', hn, hb, r⟩ := A
  obtain ⟨T', h', X', e', W, st⟩ := stB X hx hZ eT A' (j := j) (x := x) (own_inb hn hj) hg hs hd
  rw [hj.2.1] at X' W
  exact ⟨T', h', X', e', W, OwnA.set W ⟨cl, A', hn, hb, r⟩ hj.2.2, st⟩
theorem own_ldD (X : Stand p l e R s m args below meth c T locs cells slots) (hx : p.tables.exec = Jvm.exec) (hZ : Z.Warmed39 s.vm) (eT : T.heap = h) (A : OwnA Z h a .double n f) {j : Int32} {i : Nat} (hj : ¬ j < 0 ∧ j.toNatClampNeg = i ∧ i < n) {v : Value} (hv : f i = v) {g : JFrame} (hg : g.method = m) {rest : List Value} (hs : g.stack = .int j :: .ref a :: rest) (hd : decode c.code g.pc = .ok (.daload, 1)) (target : State)
    (k : Steps p.tables e below (T.setTop { g with pc := g.pc + 1, stack := v :: rest }) target) : Steps p.tables e below (T.setTop g) target := by
  obtain ⟨cl, A, hn, hb, r⟩ := A
  exact X.daload hx (j := j) (v := v) (by rw [eT]; exact A.1) (State.isArrayOf_alike hZ.alike A.2.1) A.2.2 (own_inb hn hj) (by rw [hj.2.1, r i hj.2.2, hv]) hg hs hd target k
theorem own_stD (X : Stand p l e R s m args below meth c T locs cells slots) (hx : p.tables.exec = Jvm.exec) (hZ : Z.Warmed39 s.vm) (eT : T.heap = h) (A : OwnA Z h a .double n f) {j : Int32} {i : Nat} (hj : ¬ j < 0 ∧ j.toNatClampNeg = i ∧ i < n) {x : UInt64} {g : JFrame} (hg : g.method = m) {rest : List Value} (hs : g.stack = .double x :: .int j :: .ref a :: rest) (hd : decode c.code g.pc = .ok (.dastore, 1)) :
    ∃ T' h', Stand p l e R s m args below meth c T' (locs ++ [⟨a, i⟩]) cells slots ∧ T'.heap = h' ∧ Wr h h' a i (.double x) ∧ OwnA Z h' a .double n (ownSet f i (.double x)) ∧ ∀ target, Steps p.tables e below (T'.setTop { g with pc := g.pc + 1, stack := rest }) target → Steps p.tables e below (T.setTop g) target := by
  obtain ⟨cl, A', hn, hb, r⟩ := A
  obtain ⟨T', h', X', e', W, st⟩ := stD X hx hZ eT A' (j := j) (x := x) (own_inb hn hj) hg hs hd
  rw [hj.2.1] at X' W
  exact ⟨T', h', X', e', W, OwnA.set W ⟨cl, A', hn, hb, r⟩ hj.2.2, st⟩
end OwnArr
end Jvm.RoadKit
namespace Jvm.Pilot.@@N@@
open Jvm Jvm.ClassFile Sem Op Lib Jvm.Free Jvm.Stand Jvm.LawKit Jvm.RoadKit Bundle Jvm.Pilot.@@N@@.Jvm.D
theorem own_i8 (z : Int32) : nar .byte z.toInt8.toInt32 = z.toInt8.toInt32 := by simp [nar]
theorem own_idx {fr : Int32} {N : Nat} (h : fr < N.toInt32) (hN : N < 2 ^ 31) (h0 : ¬ fr < 0) : fr.toNatClampNeg < N := by
  have e := len_toInt hN
  rw [Int32.lt_iff_toInt_lt, e] at h
  rw [Int32.lt_iff_toInt_lt] at h0
  simp only [Int32.reduceToInt] at h0
  simp only [Int32.toNatClampNeg]; omega
theorem own_idx' {fr : Int32} {N : Nat} (h : ¬ fr < N.toInt32) (hN : N < 2 ^ 31) : ¬ fr.toNatClampNeg < N := by
  have e := len_toInt hN
  rw [Int32.lt_iff_toInt_lt, e] at h
  simp only [Int32.toNatClampNeg]; omega
theorem own_and (x m : Int32) (hm : 0 ≤ m.toInt) : ¬ x &&& m < 0 := by
  have := c_and x m hm
  rw [Int32.lt_iff_toInt_lt, show (0 : Int32).toInt = 0 from by decide]; omega
theorem own_three {k n : Int32} (h : k &&& 3 = n) (h0 : ¬ n = 0) (h1 : ¬ n = 1) (h2 : ¬ n = 2) : n = 3 := by
  have e := c_mask k 3 2 (by decide) (by decide)
  rw [h] at e
  rw [← Int32.toInt_inj] at h0 h1 h2 ⊢
  simp only [Int32.reduceToInt] at h0 h1 h2 ⊢
  omega
def own_g (b0 b1 b2 : Int32) : Nat → Int32 := fun i => if i = 0 then b0 else if i = 1 then b1 else b2
theorem own_at {fr : Int32} {N : Nat} {b0 b1 b2 : Int32} (h : fr < N.toInt32) (hN : N ≤ 3) (h0 : ¬ fr < 0) : (fr = 0 → own_g b0 b1 b2 fr.toNatClampNeg = b0) ∧ (¬ fr = 0 → fr = 1 → own_g b0 b1 b2 fr.toNatClampNeg = b1) ∧ (¬ fr = 0 → ¬ fr = 1 → own_g b0 b1 b2 fr.toNatClampNeg = b2) := by
  refine ⟨fun q => by subst q; rfl, fun _ q => by subst q; rfl, fun q1 q2 => ?_⟩
  have hi := own_idx h (by omega) h0
  have e : fr.toInt = fr.toNatClampNeg := nat_of h0
  rw [← Int32.toInt_inj] at q1 q2
  simp only [Int32.reduceToInt] at q1 q2
  have : fr.toNatClampNeg = 2 := by omega
  rw [this]; rfl
def own_r (fr : Int32) (N : Nat) (g : Nat → Int32) : Int32 := if fr.toNatClampNeg < N ∧ g fr.toNatClampNeg = 2 then 1 else 0
theorem own_rA {fr : Int32} {N : Nat} {g : Nat → Int32} (h : ¬ fr < N.toInt32) (hN : N < 2 ^ 31) : own_r fr N g = 0 := by
  have := own_idx' h hN
  simp [own_r, this]
theorem own_rB {fr : Int32} {N : Nat} {g : Nat → Int32} {a : Int32} (h : fr < N.toInt32) (hN : N < 2 ^ 31) (h0 : ¬ fr < 0) (ha : g fr.toNatClampNeg = a) (h2 : a = 2) : own_r fr N g = 1 := by
  have := own_idx h hN h0
  simp [own_r, this, ha, h2]
theorem own_rC {fr : Int32} {N : Nat} {g : Nat → Int32} {a : Int32} (ha : g fr.toNatClampNeg = a) (h2 : ¬ a = 2) : own_r fr N g = 0 := by
  simp [own_r, ha, h2]
theorem own_ite (b : Int32) (h : b = 0 ∨ b = 1) : nar .boolean b = b := by rcases h with rfl | rfl <;> rfl
theorem d1_0 : decode method_3_code 0 = .ok (.iload_n 0, 1) := by decide +kernel
theorem d1_1 : decode method_3_code 1 = .ok (.sipush 256, 3) := by decide +kernel
theorem d1_4 : decode method_3_code 4 = .ok (.iand, 1) := by decide +kernel
theorem d1_5 : decode method_3_code 5 = .ok (.ifCond .ne 7, 3) := by decide +kernel
theorem d1_8 : decode method_3_code 8 = .ok (.iconst 2, 1) := by decide +kernel
theorem d1_9 : decode method_3_code 9 = .ok (.goto 5, 3) := by decide +kernel
theorem d1_12 : decode method_3_code 12 = .ok (.iload_n 0, 1) := by decide +kernel
theorem d1_13 : decode method_3_code 13 = .ok (.i2b, 1) := by decide +kernel
theorem d1_14 : decode method_3_code 14 = .ok (.ireturn, 1) := by decide +kernel
theorem pn_0 : plainName "com/example/syncline/syncline/transport/PacketsIsViewPinLaw" = true := by first | (simp [plainName, overriddenIn]; done) | decide +kernel
theorem ef_1 (m : MethodId) (x0 : Int32) : entryFrame m #[(.int x0)] 1 = mkF m 0 #[.val (.int x0)] [] := by first | (simp [entryFrame, mkF, argsToLocals, Value.category]; done) | rfl
def Q1 (Z : State) (p1 : Int32) (h0 : Heap) (n0 : Nat) (v : Option Value) (h : Heap) (L : List Loc) : Prop := (∃ b, v = some (.int b) ∧ nar .byte b = b) ∧ Fr n0 L ∧ h = h0
set_option maxRecDepth 65536 in
set_option maxHeartbeats 40000000 in
theorem rm1 (l : Launch) (Z : State) (a0 : Array Value) (hw : ∀ d ∈ tables_1, d.before a0 Z = true) (ws : List Jvm.Cond) (p1 : Int32) (h0 : Heap) (n0 : Nat) (Z0 : n0 ≤ h0.size) :
    MetFree l (⟨"com/example/syncline/syncline/transport/PacketsIsViewPinLaw", "draw", "(I)B"⟩ : MethodName) (head1 (Jvm.Cond.code (⟨"com/example/syncline/syncline/transport/PacketsIsViewPinLaw", "draw", "(I)B"⟩ : MethodName) method_3_code 1 (some .byte) :: ws) ({ frames := 0, cells := 0, slots := 0, locals := 0 } : Room)) (fun a U => a = #[(.int p1)] ∧ Z.Warmed39 U.vm ∧ U.heap = h0) (fun _ _ _ _ _ => True) (fun _ U o U' => ∃ v L, o = .returned v ∧ Q1 Z p1 h0 n0 v U'.heap L ∧ FrameEnd U o U' L ({ frames := 0, cells := 0, slots := 0, locals := 0 } : Room).cells ({ frames := 0, cells := 0, slots := 0, locals := 0 } : Room).slots) := by
  refine own_met (Q := fun v h L => Q1 Z p1 h0 n0 v h L) (plainFor_of_name pn_0) ?_
  intro p e s m below meth c s₁ hx hby hml hret hlk hown hnm hZ X0 e0
  have N0 := Fr.nil n0
  rw [ef_1 m p1]
  show OwnG p e below s _ _ _ (s₁.setTop (mkF m 0 #[.val (.int p1)] []))
  refine own_by (fun t kk_ => XS.iloadN X0.here hx rfl (hb hby d1_0) rfl  kk_) ?_
  show OwnG p e below s _ _ _ (s₁.setTop (mkF m 1 #[.val (.int p1)] [(.int p1)]))
  refine own_by (fun t kk_ => XS.sipush X0.here hx rfl (hb hby d1_1) kk_) ?_
  show OwnG p e below s _ _ _ (s₁.setTop (mkF m 4 #[.val (.int p1)] [(.int (256 : Int32)), (.int p1)]))
  refine own_by (fun t kk_ => XS.iand X0.here hx rfl (hb hby d1_4) rfl kk_) ?_
  show OwnG p e below s _ _ _ (s₁.setTop (mkF m 5 #[.val (.int p1)] [(.int (p1 &&& (256 : Int32)))]))
  by_cases hb5_1 : (p1 &&& (256 : Int32)) = (0 : Int32)
  · refine own_by (fun t kk_ => XS.ifNo X0.here hx rfl (hb hby d1_5) rfl ((if0 _ _).trans (teq hb5_1).2) kk_) ?_
    show OwnG p e below s _ _ _ (s₁.setTop (mkF m 8 #[.val (.int p1)] []))
    refine own_by (fun t kk_ => XS.iconst X0.here hx rfl (hb hby d1_8) kk_) ?_
    show OwnG p e below s _ _ _ (s₁.setTop (mkF m 9 #[.val (.int p1)] [(.int (2 : Int32))]))
    refine own_by (fun t kk_ => XS.goto X0.here hx rfl (pc0 := 9) (pc' := 14) rfl (hb hby d1_9) (by decide) (by decide) kk_) ?_
    show OwnG p e below s _ _ _ (s₁.setTop (mkF m 14 #[.val (.int p1)] [(.int (2 : Int32))]))
    exact own_outN X0 hx hret (by simp) hlk (hb hby d1_14) rfl (⟨⟨_, rfl, by first | rfl | exact own_i8 _⟩, N0, e0⟩) (by decide) (by decide)
  · refine own_by (fun t kk_ => XS.ifYes X0.here hx rfl (pc0 := 5) (pc' := 12) rfl (hb hby d1_5) rfl ((if0 _ _).trans (feq hb5_1).2) (by decide) (by decide) kk_) ?_
    show OwnG p e below s _ _ _ (s₁.setTop (mkF m 12 #[.val (.int p1)] []))
    refine own_by (fun t kk_ => XS.iloadN X0.here hx rfl (hb hby d1_12) rfl  kk_) ?_
    show OwnG p e below s _ _ _ (s₁.setTop (mkF m 13 #[.val (.int p1)] [(.int p1)]))
    refine own_by (fun t kk_ => XS.i2b X0.here hx rfl (hb hby d1_13) rfl kk_) ?_
    show OwnG p e below s _ _ _ (s₁.setTop (mkF m 14 #[.val (.int p1)] [(.int (p1.toInt8.toInt32))]))
    exact own_outN X0 hx hret (by simp) hlk (hb hby d1_14) rfl (⟨⟨_, rfl, by first | rfl | exact own_i8 _⟩, N0, e0⟩) (by decide) (by decide)
theorem d2_0 : decode prog_341_method_9_code 0 = .ok (.aload_n 0, 1) := by decide +kernel
theorem d2_1 : decode prog_341_method_9_code 1 = .ok (.arraylength, 1) := by decide +kernel
theorem d2_2 : decode prog_341_method_9_code 2 = .ok (.iload_n 1, 1) := by decide +kernel
theorem d2_3 : decode prog_341_method_9_code 3 = .ok (.if_icmp .le 14, 3) := by decide +kernel
theorem d2_6 : decode prog_341_method_9_code 6 = .ok (.aload_n 0, 1) := by decide +kernel
theorem d2_7 : decode prog_341_method_9_code 7 = .ok (.iload_n 1, 1) := by decide +kernel
theorem d2_8 : decode prog_341_method_9_code 8 = .ok (.baload, 1) := by decide +kernel
theorem d2_9 : decode prog_341_method_9_code 9 = .ok (.iconst 2, 1) := by decide +kernel
theorem d2_10 : decode prog_341_method_9_code 10 = .ok (.if_icmp .ne 7, 3) := by decide +kernel
theorem d2_13 : decode prog_341_method_9_code 13 = .ok (.iconst 1, 1) := by decide +kernel
theorem d2_14 : decode prog_341_method_9_code 14 = .ok (.goto 4, 3) := by decide +kernel
theorem d2_17 : decode prog_341_method_9_code 17 = .ok (.iconst 0, 1) := by decide +kernel
theorem d2_18 : decode prog_341_method_9_code 18 = .ok (.ireturn, 1) := by decide +kernel
theorem pn_1 : plainName "com/example/syncline/syncline/transport/Packets" = true := by first | (simp [plainName, overriddenIn]; done) | decide +kernel
theorem ef_2 (m : MethodId) (x0 : Addr) (x1 : Int32) : entryFrame m #[(.ref x0), (.int x1)] 2 = mkF m 0 #[.val (.ref x0), .val (.int x1)] [] := by first | (simp [entryFrame, mkF, argsToLocals, Value.category]; done) | rfl
def Q2 (Z : State) (arr : Addr) (fr : Int32) (N : Nat) (g : Nat → Int32) (h0 : Heap) (n0 : Nat) (v : Option Value) (h : Heap) (L : List Loc) : Prop := v = some (.int (own_r fr N g)) ∧ Fr n0 L ∧ h = h0
set_option maxRecDepth 65536 in
set_option maxHeartbeats 40000000 in
theorem rm2 (l : Launch) (Z : State) (a0 : Array Value) (hw : ∀ d ∈ tables_1, d.before a0 Z = true) (ws : List Jvm.Cond) (arr : Addr) (fr : Int32) (N : Nat) (g : Nat → Int32) (h0 : Heap) (n0 : Nat) (Z0 : n0 ≤ h0.size) (A0 : OwnA Z h0 arr .byte N (fun i => .int (g i))) (hfr : ¬ fr < 0) :
    MetFree l (⟨"com/example/syncline/syncline/transport/Packets", "isView", "([BI)Z"⟩ : MethodName) (head1 (Jvm.Cond.code (⟨"com/example/syncline/syncline/transport/Packets", "isView", "([BI)Z"⟩ : MethodName) prog_341_method_9_code 2 (some .boolean) :: ws) ({ frames := 0, cells := 0, slots := 0, locals := 0 } : Room)) (fun a U => a = #[(.ref arr), (.int fr)] ∧ Z.Warmed39 U.vm ∧ U.heap = h0) (fun _ _ _ _ _ => True) (fun _ U o U' => ∃ v L, o = .returned v ∧ Q2 Z arr fr N g h0 n0 v U'.heap L ∧ FrameEnd U o U' L ({ frames := 0, cells := 0, slots := 0, locals := 0 } : Room).cells ({ frames := 0, cells := 0, slots := 0, locals := 0 } : Room).slots) := by
  refine own_met (Q := fun v h L => Q2 Z arr fr N g h0 n0 v h L) (plainFor_of_name pn_1) ?_
  intro p e s m below meth c s₁ hx hby hml hret hlk hown hnm hZ X0 e0
  have N0 := Fr.nil n0
  rw [ef_2 m arr fr]
  show OwnG p e below s _ _ _ (s₁.setTop (mkF m 0 #[.val (.ref arr), .val (.int fr)] []))
  refine own_by (fun t kk_ => XS.aloadN X0.here hx rfl (hb hby d2_0) rfl rfl kk_) ?_
  show OwnG p e below s _ _ _ (s₁.setTop (mkF m 1 #[.val (.ref arr), .val (.int fr)] [(.ref arr)]))
  refine own_by (fun t kk_ => own_len X0 hx hZ e0 A0 (z := (Nat.toInt32 N)) rfl (g := (mkF m 1 #[.val (.ref arr), .val (.int fr)] [(.ref arr)])) rfl rfl (hb hby d2_1) _ kk_) ?_
  show OwnG p e below s _ _ _ (s₁.setTop (mkF m 2 #[.val (.ref arr), .val (.int fr)] [(.int (Nat.toInt32 N))]))
  refine own_by (fun t kk_ => XS.iloadN X0.here hx rfl (hb hby d2_2) rfl  kk_) ?_
  show OwnG p e below s _ _ _ (s₁.setTop (mkF m 3 #[.val (.ref arr), .val (.int fr)] [(.int fr), (.int (Nat.toInt32 N))]))
  by_cases hb3_1 : fr < (Nat.toInt32 N)
  · refine own_by (fun t kk_ => XS.icmpNo X0.here hx rfl (hb hby d2_3) rfl (tlt hb3_1).2.2.2 kk_) ?_
    show OwnG p e below s _ _ _ (s₁.setTop (mkF m 6 #[.val (.ref arr), .val (.int fr)] []))
    refine own_by (fun t kk_ => XS.aloadN X0.here hx rfl (hb hby d2_6) rfl rfl kk_) ?_
    show OwnG p e below s _ _ _ (s₁.setTop (mkF m 7 #[.val (.ref arr), .val (.int fr)] [(.ref arr)]))
    refine own_by (fun t kk_ => XS.iloadN X0.here hx rfl (hb hby d2_7) rfl  kk_) ?_
    show OwnG p e below s _ _ _ (s₁.setTop (mkF m 8 #[.val (.ref arr), .val (.int fr)] [(.int fr), (.ref arr)]))
    refine own_by (fun t kk_ => own_ldB X0 hx hZ e0 A0 (j := fr) (i := fr.toNatClampNeg) ⟨hfr, rfl, own_idx hb3_1 A0.bound hfr⟩ (v := (.int (g fr.toNatClampNeg))) rfl (g := (mkF m 8 #[.val (.ref arr), .val (.int fr)] [(.int fr), (.ref arr)])) rfl rfl (hb hby d2_8) _ kk_) ?_
    show OwnG p e below s _ _ _ (s₁.setTop (mkF m 9 #[.val (.ref arr), .val (.int fr)] [(.int (g fr.toNatClampNeg))]))
    refine own_by (fun t kk_ => XS.iconst X0.here hx rfl (hb hby d2_9) kk_) ?_
    show OwnG p e below s _ _ _ (s₁.setTop (mkF m 10 #[.val (.ref arr), .val (.int fr)] [(.int (2 : Int32)), (.int (g fr.toNatClampNeg))]))
    by_cases hb10_2 : (g fr.toNatClampNeg) = (2 : Int32)
    · refine own_by (fun t kk_ => XS.icmpNo X0.here hx rfl (hb hby d2_10) rfl (teq hb10_2).2 kk_) ?_
      show OwnG p e below s _ _ _ (s₁.setTop (mkF m 13 #[.val (.ref arr), .val (.int fr)] []))
      refine own_by (fun t kk_ => XS.iconst X0.here hx rfl (hb hby d2_13) kk_) ?_
      show OwnG p e below s _ _ _ (s₁.setTop (mkF m 14 #[.val (.ref arr), .val (.int fr)] [(.int (1 : Int32))]))
      refine own_by (fun t kk_ => XS.goto X0.here hx rfl (pc0 := 14) (pc' := 18) rfl (hb hby d2_14) (by decide) (by decide) kk_) ?_
      show OwnG p e below s _ _ _ (s₁.setTop (mkF m 18 #[.val (.ref arr), .val (.int fr)] [(.int (1 : Int32))]))
      exact own_outN X0 hx hret (by simp) hlk (hb hby d2_18) rfl (⟨by rw [own_rB hb3_1 A0.bound hfr rfl hb10_2]; rfl, N0, e0⟩) (by decide) (by decide)
    · refine own_by (fun t kk_ => XS.icmpYes X0.here hx rfl (pc0 := 10) (pc' := 17) rfl (hb hby d2_10) rfl (feq hb10_2).2 (by decide) (by decide) kk_) ?_
      show OwnG p e below s _ _ _ (s₁.setTop (mkF m 17 #[.val (.ref arr), .val (.int fr)] []))
      refine own_by (fun t kk_ => XS.iconst X0.here hx rfl (hb hby d2_17) kk_) ?_
      show OwnG p e below s _ _ _ (s₁.setTop (mkF m 18 #[.val (.ref arr), .val (.int fr)] [(.int (0 : Int32))]))
      exact own_outN X0 hx hret (by simp) hlk (hb hby d2_18) rfl (⟨by rw [own_rC rfl hb10_2]; rfl, N0, e0⟩) (by decide) (by decide)
  · refine own_by (fun t kk_ => XS.icmpYes X0.here hx rfl (pc0 := 3) (pc' := 17) rfl (hb hby d2_3) rfl (flt hb3_1).2.2.2 (by decide) (by decide) kk_) ?_
    show OwnG p e below s _ _ _ (s₁.setTop (mkF m 17 #[.val (.ref arr), .val (.int fr)] []))
    refine own_by (fun t kk_ => XS.iconst X0.here hx rfl (hb hby d2_17) kk_) ?_
    show OwnG p e below s _ _ _ (s₁.setTop (mkF m 18 #[.val (.ref arr), .val (.int fr)] [(.int (0 : Int32))]))
    exact own_outN X0 hx hret (by simp) hlk (hb hby d2_18) rfl (⟨by rw [own_rA hb3_1 A0.bound]; rfl, N0, e0⟩) (by decide) (by decide)
theorem pd_0 : parseMethodDescriptor "(I)B" = some ⟨[.int], some .byte⟩ := by decide +kernel
theorem pd_1 : parseMethodDescriptor "([BI)Z" = some ⟨[(.array .byte), .int], some .boolean⟩ := by decide +kernel
set_option maxRecDepth 65536 in
set_option maxHeartbeats 40000000 in
theorem own_tail {p : Program} {l : Launch} {e : Env} {s : State} {m : MethodId} {args : Array Value} {below : List Frame} {meth : Method} {c : Code} {T0 : State} {locs : List Loc} {Z : State} {a0 : Array Value} {h0 : Heap} {n0 : Nat} (k f x0 x1 x2 b0 b1 b2 : Int32) (arr : Addr) (N : Nat) (X0 : Stand p l e room_1 s m args below meth c T0 locs (0 + 1) (0 + 3)) (hx : p.tables.exec = Jvm.exec) (hby : c.code = code) (hml : c.maxLocals = 13) (hret : meth.sig.returnType = some .boolean) (hlk : meth.locks = false) (hown : s.vm.findClass "com/example/syncline/syncline/transport/PacketsIsViewPinLaw" = some m.cls) (hnm : meth.name = "law") (hZ : Z.Warmed39 s.vm) (hw : ∀ d ∈ tables_1, d.before a0 Z = true) (e0 : T0.heap = h0) (N0 : Fr n0 locs) (Z0 : n0 ≤ h0.size) (A0 : OwnA Z h0 arr .byte N (fun i => .int (own_g b0 b1 b2 i))) (hN3 : N ≤ 3) :
    OwnG p e below s (fun v h L => v = some (.int (1 : Int32)) ∧ Fr n0 L) room_1.cells room_1.slots (T0.setTop (mkF m 100 #[.val (.int k), .val (.int f), .val (.int x0), .val (.int x1), .val (.int x2), .val (.int N.toInt32), .val (.int b0), .val (.int b1), .val (.int b2), .val (.ref arr), .unset, .unset, .unset] [])) := by
  show OwnG p e below s _ _ _ (T0.setTop (mkF m 100 #[.val (.int k), .val (.int f), .val (.int x0), .val (.int x1), .val (.int x2), .val (.int N.toInt32), .val (.int b0), .val (.int b1), .val (.int b2), .val (.ref arr), .unset, .unset, .unset] []))
  refine own_by (fun t kk_ => XS.iloadN X0.here hx rfl (hb hby at_100) rfl  kk_) ?_
  show OwnG p e below s _ _ _ (T0.setTop (mkF m 101 #[.val (.int k), .val (.int f), .val (.int x0), .val (.int x1), .val (.int x2), .val (.int N.toInt32), .val (.int b0), .val (.int b1), .val (.int b2), .val (.ref arr), .unset, .unset, .unset] [(.int f)]))
  refine own_by (fun t kk_ => XS.bipush X0.here hx rfl (hb hby at_101) kk_) ?_
  show OwnG p e below s _ _ _ (T0.setTop (mkF m 103 #[.val (.int k), .val (.int f), .val (.int x0), .val (.int x1), .val (.int x2), .val (.int N.toInt32), .val (.int b0), .val (.int b1), .val (.int b2), .val (.ref arr), .unset, .unset, .unset] [(.int (8 : Int32)), (.int f)]))
  refine own_by (fun t kk_ => XS.iand X0.here hx rfl (hb hby at_103) rfl kk_) ?_
  show OwnG p e below s _ _ _ (T0.setTop (mkF m 104 #[.val (.int k), .val (.int f), .val (.int x0), .val (.int x1), .val (.int x2), .val (.int N.toInt32), .val (.int b0), .val (.int b1), .val (.int b2), .val (.ref arr), .unset, .unset, .unset] [(.int (f &&& (8 : Int32)))]))
  by_cases hb104_1 : (f &&& (8 : Int32)) = (0 : Int32)
  · refine own_by (fun t kk_ => XS.ifYes X0.here hx rfl (pc0 := 104) (pc' := 114) rfl (hb hby at_104) rfl ((if0 _ _).trans (teq hb104_1).1) (by decide) (by decide) kk_) ?_
    show OwnG p e below s _ _ _ (T0.setTop (mkF m 114 #[.val (.int k), .val (.int f), .val (.int x0), .val (.int x1), .val (.int x2), .val (.int N.toInt32), .val (.int b0), .val (.int b1), .val (.int b2), .val (.ref arr), .unset, .unset, .unset] []))
    refine own_by (fun t kk_ => XS.iloadN X0.here hx rfl (hb hby at_114) rfl  kk_) ?_
    show OwnG p e below s _ _ _ (T0.setTop (mkF m 115 #[.val (.int k), .val (.int f), .val (.int x0), .val (.int x1), .val (.int x2), .val (.int N.toInt32), .val (.int b0), .val (.int b1), .val (.int b2), .val (.ref arr), .unset, .unset, .unset] [(.int f)]))
    refine own_by (fun t kk_ => XS.bipush X0.here hx rfl (hb hby at_115) kk_) ?_
    show OwnG p e below s _ _ _ (T0.setTop (mkF m 117 #[.val (.int k), .val (.int f), .val (.int x0), .val (.int x1), .val (.int x2), .val (.int N.toInt32), .val (.int b0), .val (.int b1), .val (.int b2), .val (.ref arr), .unset, .unset, .unset] [(.int (7 : Int32)), (.int f)]))
    refine own_by (fun t kk_ => XS.iand X0.here hx rfl (hb hby at_117) rfl kk_) ?_
    show OwnG p e below s _ _ _ (T0.setTop (mkF m 118 #[.val (.int k), .val (.int f), .val (.int x0), .val (.int x1), .val (.int x2), .val (.int N.toInt32), .val (.int b0), .val (.int b1), .val (.int b2), .val (.ref arr), .unset, .unset, .unset] [(.int (f &&& (7 : Int32)))]))
    have h_fr0 : ¬ (f &&& (7 : Int32)) < 0 := own_and _ _ (by decide)
    generalize (f &&& (7 : Int32)) = fr at h_fr0 ⊢
    show OwnG p e below s _ _ _ (T0.setTop (mkF m 118 #[.val (.int k), .val (.int f), .val (.int x0), .val (.int x1), .val (.int x2), .val (.int N.toInt32), .val (.int b0), .val (.int b1), .val (.int b2), .val (.ref arr), .unset, .unset, .unset] [(.int fr)]))
    refine own_by (fun t kk_ => XS.istore X0.here hx rfl (hb hby at_118) rfl (l' := #[.val (.int k), .val (.int f), .val (.int x0), .val (.int x1), .val (.int x2), .val (.int N.toInt32), .val (.int b0), .val (.int b1), .val (.int b2), .val (.ref arr), .val (.int fr), .unset, .unset]) rfl kk_) ?_
    show OwnG p e below s _ _ _ (T0.setTop (mkF m 120 #[.val (.int k), .val (.int f), .val (.int x0), .val (.int x1), .val (.int x2), .val (.int N.toInt32), .val (.int b0), .val (.int b1), .val (.int b2), .val (.ref arr), .val (.int fr), .unset, .unset] []))
    refine own_by (fun t kk_ => XS.iload X0.here hx rfl (hb hby at_120) rfl  kk_) ?_
    show OwnG p e below s _ _ _ (T0.setTop (mkF m 122 #[.val (.int k), .val (.int f), .val (.int x0), .val (.int x1), .val (.int x2), .val (.int N.toInt32), .val (.int b0), .val (.int b1), .val (.int b2), .val (.ref arr), .val (.int fr), .unset, .unset] [(.int fr)]))
    refine own_by (fun t kk_ => XS.iload X0.here hx rfl (hb hby at_122) rfl  kk_) ?_
    show OwnG p e below s _ _ _ (T0.setTop (mkF m 124 #[.val (.int k), .val (.int f), .val (.int x0), .val (.int x1), .val (.int x2), .val (.int N.toInt32), .val (.int b0), .val (.int b1), .val (.int b2), .val (.ref arr), .val (.int fr), .unset, .unset] [(.int N.toInt32), (.int fr)]))
    by_cases hb124_2 : fr < N.toInt32
    · have hat := own_at (b0 := b0) (b1 := b1) (b2 := b2) hb124_2 hN3 h_fr0
      refine own_by (fun t kk_ => XS.icmpYes X0.here hx rfl (pc0 := 124) (pc' := 133) rfl (hb hby at_124) rfl (tlt hb124_2).1 (by decide) (by decide) kk_) ?_
      show OwnG p e below s _ _ _ (T0.setTop (mkF m 133 #[.val (.int k), .val (.int f), .val (.int x0), .val (.int x1), .val (.int x2), .val (.int N.toInt32), .val (.int b0), .val (.int b1), .val (.int b2), .val (.ref arr), .val (.int fr), .unset, .unset] []))
      refine own_by (fun t kk_ => XS.iload X0.here hx rfl (hb hby at_133) rfl  kk_) ?_
      show OwnG p e below s _ _ _ (T0.setTop (mkF m 135 #[.val (.int k), .val (.int f), .val (.int x0), .val (.int x1), .val (.int x2), .val (.int N.toInt32), .val (.int b0), .val (.int b1), .val (.int b2), .val (.ref arr), .val (.int fr), .unset, .unset] [(.int fr)]))
      by_cases hb135_3 : fr = (0 : Int32)
      · refine own_by (fun t kk_ => XS.ifNo X0.here hx rfl (hb hby at_135) rfl ((if0 _ _).trans (teq hb135_3).2) kk_) ?_
        show OwnG p e below s _ _ _ (T0.setTop (mkF m 138 #[.val (.int k), .val (.int f), .val (.int x0), .val (.int x1), .val (.int x2), .val (.int N.toInt32), .val (.int b0), .val (.int b1), .val (.int b2), .val (.ref arr), .val (.int fr), .unset, .unset] []))
        refine own_by (fun t kk_ => XS.iload X0.here hx rfl (hb hby at_138) rfl  kk_) ?_
        show OwnG p e below s _ _ _ (T0.setTop (mkF m 140 #[.val (.int k), .val (.int f), .val (.int x0), .val (.int x1), .val (.int x2), .val (.int N.toInt32), .val (.int b0), .val (.int b1), .val (.int b2), .val (.ref arr), .val (.int fr), .unset, .unset] [(.int b0)]))
        refine own_by (fun t kk_ => XS.goto X0.here hx rfl (pc0 := 140) (pc' := 156) rfl (hb hby at_140) (by decide) (by decide) kk_) ?_
        show OwnG p e below s _ _ _ (T0.setTop (mkF m 156 #[.val (.int k), .val (.int f), .val (.int x0), .val (.int x1), .val (.int x2), .val (.int N.toInt32), .val (.int b0), .val (.int b1), .val (.int b2), .val (.ref arr), .val (.int fr), .unset, .unset] [(.int b0)]))
        refine own_by (fun t kk_ => XS.istore X0.here hx rfl (hb hby at_156) rfl (l' := #[.val (.int k), .val (.int f), .val (.int x0), .val (.int x1), .val (.int x2), .val (.int N.toInt32), .val (.int b0), .val (.int b1), .val (.int b2), .val (.ref arr), .val (.int fr), .unset, .val (.int b0)]) rfl kk_) ?_
        show OwnG p e below s _ _ _ (T0.setTop (mkF m 158 #[.val (.int k), .val (.int f), .val (.int x0), .val (.int x1), .val (.int x2), .val (.int N.toInt32), .val (.int b0), .val (.int b1), .val (.int b2), .val (.ref arr), .val (.int fr), .unset, .val (.int b0)] []))
        refine own_by (fun t kk_ => XS.iload X0.here hx rfl (hb hby at_158) rfl  kk_) ?_
        show OwnG p e below s _ _ _ (T0.setTop (mkF m 160 #[.val (.int k), .val (.int f), .val (.int x0), .val (.int x1), .val (.int x2), .val (.int N.toInt32), .val (.int b0), .val (.int b1), .val (.int b2), .val (.ref arr), .val (.int fr), .unset, .val (.int b0)] [(.int b0)]))
        refine own_by (fun t kk_ => XS.iconst X0.here hx rfl (hb hby at_160) kk_) ?_
        show OwnG p e below s _ _ _ (T0.setTop (mkF m 161 #[.val (.int k), .val (.int f), .val (.int x0), .val (.int x1), .val (.int x2), .val (.int N.toInt32), .val (.int b0), .val (.int b1), .val (.int b2), .val (.ref arr), .val (.int fr), .unset, .val (.int b0)] [(.int (2 : Int32)), (.int b0)]))
        by_cases hb161_4 : b0 = (2 : Int32)
        · refine own_by (fun t kk_ => XS.icmpNo X0.here hx rfl (hb hby at_161) rfl (teq hb161_4).2 kk_) ?_
          show OwnG p e below s _ _ _ (T0.setTop (mkF m 164 #[.val (.int k), .val (.int f), .val (.int x0), .val (.int x1), .val (.int x2), .val (.int N.toInt32), .val (.int b0), .val (.int b1), .val (.int b2), .val (.ref arr), .val (.int fr), .unset, .val (.int b0)] []))
          refine own_by (fun t kk_ => XS.iconst X0.here hx rfl (hb hby at_164) kk_) ?_
          show OwnG p e below s _ _ _ (T0.setTop (mkF m 165 #[.val (.int k), .val (.int f), .val (.int x0), .val (.int x1), .val (.int x2), .val (.int N.toInt32), .val (.int b0), .val (.int b1), .val (.int b2), .val (.ref arr), .val (.int fr), .unset, .val (.int b0)] [(.int (1 : Int32))]))
          refine own_by (fun t kk_ => XS.goto X0.here hx rfl (pc0 := 165) (pc' := 169) rfl (hb hby at_165) (by decide) (by decide) kk_) ?_
          show OwnG p e below s _ _ _ (T0.setTop (mkF m 169 #[.val (.int k), .val (.int f), .val (.int x0), .val (.int x1), .val (.int x2), .val (.int N.toInt32), .val (.int b0), .val (.int b1), .val (.int b2), .val (.ref arr), .val (.int fr), .unset, .val (.int b0)] [(.int (1 : Int32))]))
          refine own_by (fun t kk_ => XS.istore X0.here hx rfl (hb hby at_169) rfl (l' := #[.val (.int k), .val (.int f), .val (.int x0), .val (.int x1), .val (.int x2), .val (.int N.toInt32), .val (.int b0), .val (.int b1), .val (.int b2), .val (.ref arr), .val (.int fr), .val (.int (1 : Int32)), .val (.int b0)]) rfl kk_) ?_
          show OwnG p e below s _ _ _ (T0.setTop (mkF m 171 #[.val (.int k), .val (.int f), .val (.int x0), .val (.int x1), .val (.int x2), .val (.int N.toInt32), .val (.int b0), .val (.int b1), .val (.int b2), .val (.ref arr), .val (.int fr), .val (.int (1 : Int32)), .val (.int b0)] []))
          refine own_by (fun t kk_ => XS.aload X0.here hx rfl (hb hby at_171) rfl rfl kk_) ?_
          show OwnG p e below s _ _ _ (T0.setTop (mkF m 173 #[.val (.int k), .val (.int f), .val (.int x0), .val (.int x1), .val (.int x2), .val (.int N.toInt32), .val (.int b0), .val (.int b1), .val (.int b2), .val (.ref arr), .val (.int fr), .val (.int (1 : Int32)), .val (.int b0)] [(.ref arr)]))
          refine own_by (fun t kk_ => XS.iload X0.here hx rfl (hb hby at_173) rfl  kk_) ?_
          show OwnG p e below s _ _ _ (T0.setTop (mkF m 175 #[.val (.int k), .val (.int f), .val (.int x0), .val (.int x1), .val (.int x2), .val (.int N.toInt32), .val (.int b0), .val (.int b1), .val (.int b2), .val (.ref arr), .val (.int fr), .val (.int (1 : Int32)), .val (.int b0)] [(.int fr), (.ref arr)]))
          obtain ⟨_, _, ⟨T5, L5, k5, n5⟩, -, X5, ⟨Lc5, hQ5, l5, y5, z5⟩, st5⟩ := Jvm.LawKit.callS X0 hx (y := (⟨"com/example/syncline/syncline/transport/Packets", "isView", "([BI)Z"⟩ : MethodName)) hown (mvT hZ (hw _ (List.mem_of_getElem? (i := 5) rfl))) (mvT hZ (hw _ (List.mem_of_getElem? (i := 6) rfl))) (mvT hZ (hw _ (List.mem_of_getElem? (i := 7) rfl))) (mvT hZ (hw _ (List.mem_of_getElem? (i := 8) rfl))) (by decide) (backOf (W := 0) (rm2 l Z a0 hw [] arr fr N (own_g b0 b1 b2) h0 n0 Z0 A0 h_fr0) hZ (hw _ (List.mem_of_getElem? (i := 8) rfl)) (hw _ (List.mem_of_getElem? (i := 7) rfl)) (by decide) (by decide)) (g := (mkF m 175 #[.val (.int k), .val (.int f), .val (.int x0), .val (.int x1), .val (.int x2), .val (.int N.toInt32), .val (.int b0), .val (.int b1), .val (.int b2), .val (.ref arr), .val (.int fr), .val (.int (1 : Int32)), .val (.int b0)] [(.int fr), (.ref arr)])) rfl (by rw [hml]; rfl) (argsL := [(.ref arr), (.int fr)]) (rest := []) (lenOf pd_1 rfl) rfl (by show 2 * 0 + _ ≤ _; exact Nat.le_of_eq rfl) (hb hby at_175) (fun _ _ => ⟨rfl, e0, (by decide : 0 + 1 + 0 ≤ _), (by decide : 0 + 3 + 0 ≤ _)⟩)
          dsimp only [Pt.U, Pt.locs, Pt.cells, Pt.slots] at X5 l5 y5 z5 st5 hQ5
          subst l5 y5 z5
          refine own_by (fun t kk_ => st5 _ kk_) ?_
          obtain ⟨rfl, N5q, hh5⟩ := hQ5
          have N5 := Fr.app N0 N5q
          show OwnG p e below s _ _ _ (T5.setTop (mkF m 178 #[.val (.int k), .val (.int f), .val (.int x0), .val (.int x1), .val (.int x2), .val (.int N.toInt32), .val (.int b0), .val (.int b1), .val (.int b2), .val (.ref arr), .val (.int fr), .val (.int (1 : Int32)), .val (.int b0)] [(.int (own_r fr N (own_g b0 b1 b2)))]))
          refine own_by (fun t kk_ => XS.iload X5.here hx rfl (hb hby at_178) rfl  kk_) ?_
          show OwnG p e below s _ _ _ (T5.setTop (mkF m 180 #[.val (.int k), .val (.int f), .val (.int x0), .val (.int x1), .val (.int x2), .val (.int N.toInt32), .val (.int b0), .val (.int b1), .val (.int b2), .val (.ref arr), .val (.int fr), .val (.int (1 : Int32)), .val (.int b0)] [(.int (1 : Int32)), (.int (own_r fr N (own_g b0 b1 b2)))]))
          refine own_by (fun t kk_ => XS.icmpNo X5.here hx rfl (hb hby at_180) rfl (teq (own_rB hb124_2 (by omega) h_fr0 (hat.1 hb135_3) hb161_4)).2 kk_) ?_
          show OwnG p e below s _ _ _ (T5.setTop (mkF m 183 #[.val (.int k), .val (.int f), .val (.int x0), .val (.int x1), .val (.int x2), .val (.int N.toInt32), .val (.int b0), .val (.int b1), .val (.int b2), .val (.ref arr), .val (.int fr), .val (.int (1 : Int32)), .val (.int b0)] []))
          refine own_by (fun t kk_ => XS.iconst X5.here hx rfl (hb hby at_183) kk_) ?_
          show OwnG p e below s _ _ _ (T5.setTop (mkF m 184 #[.val (.int k), .val (.int f), .val (.int x0), .val (.int x1), .val (.int x2), .val (.int N.toInt32), .val (.int b0), .val (.int b1), .val (.int b2), .val (.ref arr), .val (.int fr), .val (.int (1 : Int32)), .val (.int b0)] [(.int (1 : Int32))]))
          refine own_by (fun t kk_ => XS.goto X5.here hx rfl (pc0 := 184) (pc' := 188) rfl (hb hby at_184) (by decide) (by decide) kk_) ?_
          show OwnG p e below s _ _ _ (T5.setTop (mkF m 188 #[.val (.int k), .val (.int f), .val (.int x0), .val (.int x1), .val (.int x2), .val (.int N.toInt32), .val (.int b0), .val (.int b1), .val (.int b2), .val (.ref arr), .val (.int fr), .val (.int (1 : Int32)), .val (.int b0)] [(.int (1 : Int32))]))
          exact own_outN X5 hx hret (by simp) hlk (hb hby at_188) rfl (⟨rfl, N5⟩) (by decide) (by decide)
        · refine own_by (fun t kk_ => XS.icmpYes X0.here hx rfl (pc0 := 161) (pc' := 168) rfl (hb hby at_161) rfl (feq hb161_4).2 (by decide) (by decide) kk_) ?_
          show OwnG p e below s _ _ _ (T0.setTop (mkF m 168 #[.val (.int k), .val (.int f), .val (.int x0), .val (.int x1), .val (.int x2), .val (.int N.toInt32), .val (.int b0), .val (.int b1), .val (.int b2), .val (.ref arr), .val (.int fr), .unset, .val (.int b0)] []))
          refine own_by (fun t kk_ => XS.iconst X0.here hx rfl (hb hby at_168) kk_) ?_
          show OwnG p e below s _ _ _ (T0.setTop (mkF m 169 #[.val (.int k), .val (.int f), .val (.int x0), .val (.int x1), .val (.int x2), .val (.int N.toInt32), .val (.int b0), .val (.int b1), .val (.int b2), .val (.ref arr), .val (.int fr), .unset, .val (.int b0)] [(.int (0 : Int32))]))
          refine own_by (fun t kk_ => XS.istore X0.here hx rfl (hb hby at_169) rfl (l' := #[.val (.int k), .val (.int f), .val (.int x0), .val (.int x1), .val (.int x2), .val (.int N.toInt32), .val (.int b0), .val (.int b1), .val (.int b2), .val (.ref arr), .val (.int fr), .val (.int (0 : Int32)), .val (.int b0)]) rfl kk_) ?_
          show OwnG p e below s _ _ _ (T0.setTop (mkF m 171 #[.val (.int k), .val (.int f), .val (.int x0), .val (.int x1), .val (.int x2), .val (.int N.toInt32), .val (.int b0), .val (.int b1), .val (.int b2), .val (.ref arr), .val (.int fr), .val (.int (0 : Int32)), .val (.int b0)] []))
          refine own_by (fun t kk_ => XS.aload X0.here hx rfl (hb hby at_171) rfl rfl kk_) ?_
          show OwnG p e below s _ _ _ (T0.setTop (mkF m 173 #[.val (.int k), .val (.int f), .val (.int x0), .val (.int x1), .val (.int x2), .val (.int N.toInt32), .val (.int b0), .val (.int b1), .val (.int b2), .val (.ref arr), .val (.int fr), .val (.int (0 : Int32)), .val (.int b0)] [(.ref arr)]))
          refine own_by (fun t kk_ => XS.iload X0.here hx rfl (hb hby at_173) rfl  kk_) ?_
          show OwnG p e below s _ _ _ (T0.setTop (mkF m 175 #[.val (.int k), .val (.int f), .val (.int x0), .val (.int x1), .val (.int x2), .val (.int N.toInt32), .val (.int b0), .val (.int b1), .val (.int b2), .val (.ref arr), .val (.int fr), .val (.int (0 : Int32)), .val (.int b0)] [(.int fr), (.ref arr)]))
          obtain ⟨_, _, ⟨T6, L6, k6, n6⟩, -, X6, ⟨Lc6, hQ6, l6, y6, z6⟩, st6⟩ := Jvm.LawKit.callS X0 hx (y := (⟨"com/example/syncline/syncline/transport/Packets", "isView", "([BI)Z"⟩ : MethodName)) hown (mvT hZ (hw _ (List.mem_of_getElem? (i := 5) rfl))) (mvT hZ (hw _ (List.mem_of_getElem? (i := 6) rfl))) (mvT hZ (hw _ (List.mem_of_getElem? (i := 7) rfl))) (mvT hZ (hw _ (List.mem_of_getElem? (i := 8) rfl))) (by decide) (backOf (W := 0) (rm2 l Z a0 hw [] arr fr N (own_g b0 b1 b2) h0 n0 Z0 A0 h_fr0) hZ (hw _ (List.mem_of_getElem? (i := 8) rfl)) (hw _ (List.mem_of_getElem? (i := 7) rfl)) (by decide) (by decide)) (g := (mkF m 175 #[.val (.int k), .val (.int f), .val (.int x0), .val (.int x1), .val (.int x2), .val (.int N.toInt32), .val (.int b0), .val (.int b1), .val (.int b2), .val (.ref arr), .val (.int fr), .val (.int (0 : Int32)), .val (.int b0)] [(.int fr), (.ref arr)])) rfl (by rw [hml]; rfl) (argsL := [(.ref arr), (.int fr)]) (rest := []) (lenOf pd_1 rfl) rfl (by show 2 * 0 + _ ≤ _; exact Nat.le_of_eq rfl) (hb hby at_175) (fun _ _ => ⟨rfl, e0, (by decide : 0 + 1 + 0 ≤ _), (by decide : 0 + 3 + 0 ≤ _)⟩)
          dsimp only [Pt.U, Pt.locs, Pt.cells, Pt.slots] at X6 l6 y6 z6 st6 hQ6
          subst l6 y6 z6
          refine own_by (fun t kk_ => st6 _ kk_) ?_
          obtain ⟨rfl, N6q, hh6⟩ := hQ6
          have N6 := Fr.app N0 N6q
          show OwnG p e below s _ _ _ (T6.setTop (mkF m 178 #[.val (.int k), .val (.int f), .val (.int x0), .val (.int x1), .val (.int x2), .val (.int N.toInt32), .val (.int b0), .val (.int b1), .val (.int b2), .val (.ref arr), .val (.int fr), .val (.int (0 : Int32)), .val (.int b0)] [(.int (own_r fr N (own_g b0 b1 b2)))]))
          refine own_by (fun t kk_ => XS.iload X6.here hx rfl (hb hby at_178) rfl  kk_) ?_
          show OwnG p e below s _ _ _ (T6.setTop (mkF m 180 #[.val (.int k), .val (.int f), .val (.int x0), .val (.int x1), .val (.int x2), .val (.int N.toInt32), .val (.int b0), .val (.int b1), .val (.int b2), .val (.ref arr), .val (.int fr), .val (.int (0 : Int32)), .val (.int b0)] [(.int (0 : Int32)), (.int (own_r fr N (own_g b0 b1 b2)))]))
          refine own_by (fun t kk_ => XS.icmpNo X6.here hx rfl (hb hby at_180) rfl (teq (own_rC (hat.1 hb135_3) hb161_4)).2 kk_) ?_
          show OwnG p e below s _ _ _ (T6.setTop (mkF m 183 #[.val (.int k), .val (.int f), .val (.int x0), .val (.int x1), .val (.int x2), .val (.int N.toInt32), .val (.int b0), .val (.int b1), .val (.int b2), .val (.ref arr), .val (.int fr), .val (.int (0 : Int32)), .val (.int b0)] []))
          refine own_by (fun t kk_ => XS.iconst X6.here hx rfl (hb hby at_183) kk_) ?_
          show OwnG p e below s _ _ _ (T6.setTop (mkF m 184 #[.val (.int k), .val (.int f), .val (.int x0), .val (.int x1), .val (.int x2), .val (.int N.toInt32), .val (.int b0), .val (.int b1), .val (.int b2), .val (.ref arr), .val (.int fr), .val (.int (0 : Int32)), .val (.int b0)] [(.int (1 : Int32))]))
          refine own_by (fun t kk_ => XS.goto X6.here hx rfl (pc0 := 184) (pc' := 188) rfl (hb hby at_184) (by decide) (by decide) kk_) ?_
          show OwnG p e below s _ _ _ (T6.setTop (mkF m 188 #[.val (.int k), .val (.int f), .val (.int x0), .val (.int x1), .val (.int x2), .val (.int N.toInt32), .val (.int b0), .val (.int b1), .val (.int b2), .val (.ref arr), .val (.int fr), .val (.int (0 : Int32)), .val (.int b0)] [(.int (1 : Int32))]))
          exact own_outN X6 hx hret (by simp) hlk (hb hby at_188) rfl (⟨rfl, N6⟩) (by decide) (by decide)
      · refine own_by (fun t kk_ => XS.ifYes X0.here hx rfl (pc0 := 135) (pc' := 143) rfl (hb hby at_135) rfl ((if0 _ _).trans (feq hb135_3).2) (by decide) (by decide) kk_) ?_
        show OwnG p e below s _ _ _ (T0.setTop (mkF m 143 #[.val (.int k), .val (.int f), .val (.int x0), .val (.int x1), .val (.int x2), .val (.int N.toInt32), .val (.int b0), .val (.int b1), .val (.int b2), .val (.ref arr), .val (.int fr), .unset, .unset] []))
        refine own_by (fun t kk_ => XS.iload X0.here hx rfl (hb hby at_143) rfl  kk_) ?_
        show OwnG p e below s _ _ _ (T0.setTop (mkF m 145 #[.val (.int k), .val (.int f), .val (.int x0), .val (.int x1), .val (.int x2), .val (.int N.toInt32), .val (.int b0), .val (.int b1), .val (.int b2), .val (.ref arr), .val (.int fr), .unset, .unset] [(.int fr)]))
        refine own_by (fun t kk_ => XS.iconst X0.here hx rfl (hb hby at_145) kk_) ?_
        show OwnG p e below s _ _ _ (T0.setTop (mkF m 146 #[.val (.int k), .val (.int f), .val (.int x0), .val (.int x1), .val (.int x2), .val (.int N.toInt32), .val (.int b0), .val (.int b1), .val (.int b2), .val (.ref arr), .val (.int fr), .unset, .unset] [(.int (1 : Int32)), (.int fr)]))
        by_cases hb146_7 : fr = (1 : Int32)
        · refine own_by (fun t kk_ => XS.icmpNo X0.here hx rfl (hb hby at_146) rfl (teq hb146_7).2 kk_) ?_
          show OwnG p e below s _ _ _ (T0.setTop (mkF m 149 #[.val (.int k), .val (.int f), .val (.int x0), .val (.int x1), .val (.int x2), .val (.int N.toInt32), .val (.int b0), .val (.int b1), .val (.int b2), .val (.ref arr), .val (.int fr), .unset, .unset] []))
          refine own_by (fun t kk_ => XS.iload X0.here hx rfl (hb hby at_149) rfl  kk_) ?_
          show OwnG p e below s _ _ _ (T0.setTop (mkF m 151 #[.val (.int k), .val (.int f), .val (.int x0), .val (.int x1), .val (.int x2), .val (.int N.toInt32), .val (.int b0), .val (.int b1), .val (.int b2), .val (.ref arr), .val (.int fr), .unset, .unset] [(.int b1)]))
          refine own_by (fun t kk_ => XS.goto X0.here hx rfl (pc0 := 151) (pc' := 156) rfl (hb hby at_151) (by decide) (by decide) kk_) ?_
          show OwnG p e below s _ _ _ (T0.setTop (mkF m 156 #[.val (.int k), .val (.int f), .val (.int x0), .val (.int x1), .val (.int x2), .val (.int N.toInt32), .val (.int b0), .val (.int b1), .val (.int b2), .val (.ref arr), .val (.int fr), .unset, .unset] [(.int b1)]))
          refine own_by (fun t kk_ => XS.istore X0.here hx rfl (hb hby at_156) rfl (l' := #[.val (.int k), .val (.int f), .val (.int x0), .val (.int x1), .val (.int x2), .val (.int N.toInt32), .val (.int b0), .val (.int b1), .val (.int b2), .val (.ref arr), .val (.int fr), .unset, .val (.int b1)]) rfl kk_) ?_
          show OwnG p e below s _ _ _ (T0.setTop (mkF m 158 #[.val (.int k), .val (.int f), .val (.int x0), .val (.int x1), .val (.int x2), .val (.int N.toInt32), .val (.int b0), .val (.int b1), .val (.int b2), .val (.ref arr), .val (.int fr), .unset, .val (.int b1)] []))
          refine own_by (fun t kk_ => XS.iload X0.here hx rfl (hb hby at_158) rfl  kk_) ?_
          show OwnG p e below s _ _ _ (T0.setTop (mkF m 160 #[.val (.int k), .val (.int f), .val (.int x0), .val (.int x1), .val (.int x2), .val (.int N.toInt32), .val (.int b0), .val (.int b1), .val (.int b2), .val (.ref arr), .val (.int fr), .unset, .val (.int b1)] [(.int b1)]))
          refine own_by (fun t kk_ => XS.iconst X0.here hx rfl (hb hby at_160) kk_) ?_
          show OwnG p e below s _ _ _ (T0.setTop (mkF m 161 #[.val (.int k), .val (.int f), .val (.int x0), .val (.int x1), .val (.int x2), .val (.int N.toInt32), .val (.int b0), .val (.int b1), .val (.int b2), .val (.ref arr), .val (.int fr), .unset, .val (.int b1)] [(.int (2 : Int32)), (.int b1)]))
          by_cases hb161_8 : b1 = (2 : Int32)
          · refine own_by (fun t kk_ => XS.icmpNo X0.here hx rfl (hb hby at_161) rfl (teq hb161_8).2 kk_) ?_
            show OwnG p e below s _ _ _ (T0.setTop (mkF m 164 #[.val (.int k), .val (.int f), .val (.int x0), .val (.int x1), .val (.int x2), .val (.int N.toInt32), .val (.int b0), .val (.int b1), .val (.int b2), .val (.ref arr), .val (.int fr), .unset, .val (.int b1)] []))
            refine own_by (fun t kk_ => XS.iconst X0.here hx rfl (hb hby at_164) kk_) ?_
            show OwnG p e below s _ _ _ (T0.setTop (mkF m 165 #[.val (.int k), .val (.int f), .val (.int x0), .val (.int x1), .val (.int x2), .val (.int N.toInt32), .val (.int b0), .val (.int b1), .val (.int b2), .val (.ref arr), .val (.int fr), .unset, .val (.int b1)] [(.int (1 : Int32))]))
            refine own_by (fun t kk_ => XS.goto X0.here hx rfl (pc0 := 165) (pc' := 169) rfl (hb hby at_165) (by decide) (by decide) kk_) ?_
            show OwnG p e below s _ _ _ (T0.setTop (mkF m 169 #[.val (.int k), .val (.int f), .val (.int x0), .val (.int x1), .val (.int x2), .val (.int N.toInt32), .val (.int b0), .val (.int b1), .val (.int b2), .val (.ref arr), .val (.int fr), .unset, .val (.int b1)] [(.int (1 : Int32))]))
            refine own_by (fun t kk_ => XS.istore X0.here hx rfl (hb hby at_169) rfl (l' := #[.val (.int k), .val (.int f), .val (.int x0), .val (.int x1), .val (.int x2), .val (.int N.toInt32), .val (.int b0), .val (.int b1), .val (.int b2), .val (.ref arr), .val (.int fr), .val (.int (1 : Int32)), .val (.int b1)]) rfl kk_) ?_
            show OwnG p e below s _ _ _ (T0.setTop (mkF m 171 #[.val (.int k), .val (.int f), .val (.int x0), .val (.int x1), .val (.int x2), .val (.int N.toInt32), .val (.int b0), .val (.int b1), .val (.int b2), .val (.ref arr), .val (.int fr), .val (.int (1 : Int32)), .val (.int b1)] []))
            refine own_by (fun t kk_ => XS.aload X0.here hx rfl (hb hby at_171) rfl rfl kk_) ?_
            show OwnG p e below s _ _ _ (T0.setTop (mkF m 173 #[.val (.int k), .val (.int f), .val (.int x0), .val (.int x1), .val (.int x2), .val (.int N.toInt32), .val (.int b0), .val (.int b1), .val (.int b2), .val (.ref arr), .val (.int fr), .val (.int (1 : Int32)), .val (.int b1)] [(.ref arr)]))
            refine own_by (fun t kk_ => XS.iload X0.here hx rfl (hb hby at_173) rfl  kk_) ?_
            show OwnG p e below s _ _ _ (T0.setTop (mkF m 175 #[.val (.int k), .val (.int f), .val (.int x0), .val (.int x1), .val (.int x2), .val (.int N.toInt32), .val (.int b0), .val (.int b1), .val (.int b2), .val (.ref arr), .val (.int fr), .val (.int (1 : Int32)), .val (.int b1)] [(.int fr), (.ref arr)]))
            obtain ⟨_, _, ⟨T9, L9, k9, n9⟩, -, X9, ⟨Lc9, hQ9, l9, y9, z9⟩, st9⟩ := Jvm.LawKit.callS X0 hx (y := (⟨"com/example/syncline/syncline/transport/Packets", "isView", "([BI)Z"⟩ : MethodName)) hown (mvT hZ (hw _ (List.mem_of_getElem? (i := 5) rfl))) (mvT hZ (hw _ (List.mem_of_getElem? (i := 6) rfl))) (mvT hZ (hw _ (List.mem_of_getElem? (i := 7) rfl))) (mvT hZ (hw _ (List.mem_of_getElem? (i := 8) rfl))) (by decide) (backOf (W := 0) (rm2 l Z a0 hw [] arr fr N (own_g b0 b1 b2) h0 n0 Z0 A0 h_fr0) hZ (hw _ (List.mem_of_getElem? (i := 8) rfl)) (hw _ (List.mem_of_getElem? (i := 7) rfl)) (by decide) (by decide)) (g := (mkF m 175 #[.val (.int k), .val (.int f), .val (.int x0), .val (.int x1), .val (.int x2), .val (.int N.toInt32), .val (.int b0), .val (.int b1), .val (.int b2), .val (.ref arr), .val (.int fr), .val (.int (1 : Int32)), .val (.int b1)] [(.int fr), (.ref arr)])) rfl (by rw [hml]; rfl) (argsL := [(.ref arr), (.int fr)]) (rest := []) (lenOf pd_1 rfl) rfl (by show 2 * 0 + _ ≤ _; exact Nat.le_of_eq rfl) (hb hby at_175) (fun _ _ => ⟨rfl, e0, (by decide : 0 + 1 + 0 ≤ _), (by decide : 0 + 3 + 0 ≤ _)⟩)
            dsimp only [Pt.U, Pt.locs, Pt.cells, Pt.slots] at X9 l9 y9 z9 st9 hQ9
            subst l9 y9 z9
            refine own_by (fun t kk_ => st9 _ kk_) ?_
            obtain ⟨rfl, N9q, hh9⟩ := hQ9
            have N9 := Fr.app N0 N9q
            show OwnG p e below s _ _ _ (T9.setTop (mkF m 178 #[.val (.int k), .val (.int f), .val (.int x0), .val (.int x1), .val (.int x2), .val (.int N.toInt32), .val (.int b0), .val (.int b1), .val (.int b2), .val (.ref arr), .val (.int fr), .val (.int (1 : Int32)), .val (.int b1)] [(.int (own_r fr N (own_g b0 b1 b2)))]))
            refine own_by (fun t kk_ => XS.iload X9.here hx rfl (hb hby at_178) rfl  kk_) ?_
            show OwnG p e below s _ _ _ (T9.setTop (mkF m 180 #[.val (.int k), .val (.int f), .val (.int x0), .val (.int x1), .val (.int x2), .val (.int N.toInt32), .val (.int b0), .val (.int b1), .val (.int b2), .val (.ref arr), .val (.int fr), .val (.int (1 : Int32)), .val (.int b1)] [(.int (1 : Int32)), (.int (own_r fr N (own_g b0 b1 b2)))]))
            refine own_by (fun t kk_ => XS.icmpNo X9.here hx rfl (hb hby at_180) rfl (teq (own_rB hb124_2 (by omega) h_fr0 (hat.2.1 hb135_3 hb146_7) hb161_8)).2 kk_) ?_
            show OwnG p e below s _ _ _ (T9.setTop (mkF m 183 #[.val (.int k), .val (.int f), .val (.int x0), .val (.int x1), .val (.int x2), .val (.int N.toInt32), .val (.int b0), .val (.int b1), .val (.int b2), .val (.ref arr), .val (.int fr), .val (.int (1 : Int32)), .val (.int b1)] []))
            refine own_by (fun t kk_ => XS.iconst X9.here hx rfl (hb hby at_183) kk_) ?_
            show OwnG p e below s _ _ _ (T9.setTop (mkF m 184 #[.val (.int k), .val (.int f), .val (.int x0), .val (.int x1), .val (.int x2), .val (.int N.toInt32), .val (.int b0), .val (.int b1), .val (.int b2), .val (.ref arr), .val (.int fr), .val (.int (1 : Int32)), .val (.int b1)] [(.int (1 : Int32))]))
            refine own_by (fun t kk_ => XS.goto X9.here hx rfl (pc0 := 184) (pc' := 188) rfl (hb hby at_184) (by decide) (by decide) kk_) ?_
            show OwnG p e below s _ _ _ (T9.setTop (mkF m 188 #[.val (.int k), .val (.int f), .val (.int x0), .val (.int x1), .val (.int x2), .val (.int N.toInt32), .val (.int b0), .val (.int b1), .val (.int b2), .val (.ref arr), .val (.int fr), .val (.int (1 : Int32)), .val (.int b1)] [(.int (1 : Int32))]))
            exact own_outN X9 hx hret (by simp) hlk (hb hby at_188) rfl (⟨rfl, N9⟩) (by decide) (by decide)
          · refine own_by (fun t kk_ => XS.icmpYes X0.here hx rfl (pc0 := 161) (pc' := 168) rfl (hb hby at_161) rfl (feq hb161_8).2 (by decide) (by decide) kk_) ?_
            show OwnG p e below s _ _ _ (T0.setTop (mkF m 168 #[.val (.int k), .val (.int f), .val (.int x0), .val (.int x1), .val (.int x2), .val (.int N.toInt32), .val (.int b0), .val (.int b1), .val (.int b2), .val (.ref arr), .val (.int fr), .unset, .val (.int b1)] []))
            refine own_by (fun t kk_ => XS.iconst X0.here hx rfl (hb hby at_168) kk_) ?_
            show OwnG p e below s _ _ _ (T0.setTop (mkF m 169 #[.val (.int k), .val (.int f), .val (.int x0), .val (.int x1), .val (.int x2), .val (.int N.toInt32), .val (.int b0), .val (.int b1), .val (.int b2), .val (.ref arr), .val (.int fr), .unset, .val (.int b1)] [(.int (0 : Int32))]))
            refine own_by (fun t kk_ => XS.istore X0.here hx rfl (hb hby at_169) rfl (l' := #[.val (.int k), .val (.int f), .val (.int x0), .val (.int x1), .val (.int x2), .val (.int N.toInt32), .val (.int b0), .val (.int b1), .val (.int b2), .val (.ref arr), .val (.int fr), .val (.int (0 : Int32)), .val (.int b1)]) rfl kk_) ?_
            show OwnG p e below s _ _ _ (T0.setTop (mkF m 171 #[.val (.int k), .val (.int f), .val (.int x0), .val (.int x1), .val (.int x2), .val (.int N.toInt32), .val (.int b0), .val (.int b1), .val (.int b2), .val (.ref arr), .val (.int fr), .val (.int (0 : Int32)), .val (.int b1)] []))
            refine own_by (fun t kk_ => XS.aload X0.here hx rfl (hb hby at_171) rfl rfl kk_) ?_
            show OwnG p e below s _ _ _ (T0.setTop (mkF m 173 #[.val (.int k), .val (.int f), .val (.int x0), .val (.int x1), .val (.int x2), .val (.int N.toInt32), .val (.int b0), .val (.int b1), .val (.int b2), .val (.ref arr), .val (.int fr), .val (.int (0 : Int32)), .val (.int b1)] [(.ref arr)]))
            refine own_by (fun t kk_ => XS.iload X0.here hx rfl (hb hby at_173) rfl  kk_) ?_
            show OwnG p e below s _ _ _ (T0.setTop (mkF m 175 #[.val (.int k), .val (.int f), .val (.int x0), .val (.int x1), .val (.int x2), .val (.int N.toInt32), .val (.int b0), .val (.int b1), .val (.int b2), .val (.ref arr), .val (.int fr), .val (.int (0 : Int32)), .val (.int b1)] [(.int fr), (.ref arr)]))
            obtain ⟨_, _, ⟨T10, L10, k10, n10⟩, -, X10, ⟨Lc10, hQ10, l10, y10, z10⟩, st10⟩ := Jvm.LawKit.callS X0 hx (y := (⟨"com/example/syncline/syncline/transport/Packets", "isView", "([BI)Z"⟩ : MethodName)) hown (mvT hZ (hw _ (List.mem_of_getElem? (i := 5) rfl))) (mvT hZ (hw _ (List.mem_of_getElem? (i := 6) rfl))) (mvT hZ (hw _ (List.mem_of_getElem? (i := 7) rfl))) (mvT hZ (hw _ (List.mem_of_getElem? (i := 8) rfl))) (by decide) (backOf (W := 0) (rm2 l Z a0 hw [] arr fr N (own_g b0 b1 b2) h0 n0 Z0 A0 h_fr0) hZ (hw _ (List.mem_of_getElem? (i := 8) rfl)) (hw _ (List.mem_of_getElem? (i := 7) rfl)) (by decide) (by decide)) (g := (mkF m 175 #[.val (.int k), .val (.int f), .val (.int x0), .val (.int x1), .val (.int x2), .val (.int N.toInt32), .val (.int b0), .val (.int b1), .val (.int b2), .val (.ref arr), .val (.int fr), .val (.int (0 : Int32)), .val (.int b1)] [(.int fr), (.ref arr)])) rfl (by rw [hml]; rfl) (argsL := [(.ref arr), (.int fr)]) (rest := []) (lenOf pd_1 rfl) rfl (by show 2 * 0 + _ ≤ _; exact Nat.le_of_eq rfl) (hb hby at_175) (fun _ _ => ⟨rfl, e0, (by decide : 0 + 1 + 0 ≤ _), (by decide : 0 + 3 + 0 ≤ _)⟩)
            dsimp only [Pt.U, Pt.locs, Pt.cells, Pt.slots] at X10 l10 y10 z10 st10 hQ10
            subst l10 y10 z10
            refine own_by (fun t kk_ => st10 _ kk_) ?_
            obtain ⟨rfl, N10q, hh10⟩ := hQ10
            have N10 := Fr.app N0 N10q
            show OwnG p e below s _ _ _ (T10.setTop (mkF m 178 #[.val (.int k), .val (.int f), .val (.int x0), .val (.int x1), .val (.int x2), .val (.int N.toInt32), .val (.int b0), .val (.int b1), .val (.int b2), .val (.ref arr), .val (.int fr), .val (.int (0 : Int32)), .val (.int b1)] [(.int (own_r fr N (own_g b0 b1 b2)))]))
            refine own_by (fun t kk_ => XS.iload X10.here hx rfl (hb hby at_178) rfl  kk_) ?_
            show OwnG p e below s _ _ _ (T10.setTop (mkF m 180 #[.val (.int k), .val (.int f), .val (.int x0), .val (.int x1), .val (.int x2), .val (.int N.toInt32), .val (.int b0), .val (.int b1), .val (.int b2), .val (.ref arr), .val (.int fr), .val (.int (0 : Int32)), .val (.int b1)] [(.int (0 : Int32)), (.int (own_r fr N (own_g b0 b1 b2)))]))
            refine own_by (fun t kk_ => XS.icmpNo X10.here hx rfl (hb hby at_180) rfl (teq (own_rC (hat.2.1 hb135_3 hb146_7) hb161_8)).2 kk_) ?_
            show OwnG p e below s _ _ _ (T10.setTop (mkF m 183 #[.val (.int k), .val (.int f), .val (.int x0), .val (.int x1), .val (.int x2), .val (.int N.toInt32), .val (.int b0), .val (.int b1), .val (.int b2), .val (.ref arr), .val (.int fr), .val (.int (0 : Int32)), .val (.int b1)] []))
            refine own_by (fun t kk_ => XS.iconst X10.here hx rfl (hb hby at_183) kk_) ?_
            show OwnG p e below s _ _ _ (T10.setTop (mkF m 184 #[.val (.int k), .val (.int f), .val (.int x0), .val (.int x1), .val (.int x2), .val (.int N.toInt32), .val (.int b0), .val (.int b1), .val (.int b2), .val (.ref arr), .val (.int fr), .val (.int (0 : Int32)), .val (.int b1)] [(.int (1 : Int32))]))
            refine own_by (fun t kk_ => XS.goto X10.here hx rfl (pc0 := 184) (pc' := 188) rfl (hb hby at_184) (by decide) (by decide) kk_) ?_
            show OwnG p e below s _ _ _ (T10.setTop (mkF m 188 #[.val (.int k), .val (.int f), .val (.int x0), .val (.int x1), .val (.int x2), .val (.int N.toInt32), .val (.int b0), .val (.int b1), .val (.int b2), .val (.ref arr), .val (.int fr), .val (.int (0 : Int32)), .val (.int b1)] [(.int (1 : Int32))]))
            exact own_outN X10 hx hret (by simp) hlk (hb hby at_188) rfl (⟨rfl, N10⟩) (by decide) (by decide)
        · refine own_by (fun t kk_ => XS.icmpYes X0.here hx rfl (pc0 := 146) (pc' := 154) rfl (hb hby at_146) rfl (feq hb146_7).2 (by decide) (by decide) kk_) ?_
          show OwnG p e below s _ _ _ (T0.setTop (mkF m 154 #[.val (.int k), .val (.int f), .val (.int x0), .val (.int x1), .val (.int x2), .val (.int N.toInt32), .val (.int b0), .val (.int b1), .val (.int b2), .val (.ref arr), .val (.int fr), .unset, .unset] []))
          refine own_by (fun t kk_ => XS.iload X0.here hx rfl (hb hby at_154) rfl  kk_) ?_
          show OwnG p e below s _ _ _ (T0.setTop (mkF m 156 #[.val (.int k), .val (.int f), .val (.int x0), .val (.int x1), .val (.int x2), .val (.int N.toInt32), .val (.int b0), .val (.int b1), .val (.int b2), .val (.ref arr), .val (.int fr), .unset, .unset] [(.int b2)]))
          refine own_by (fun t kk_ => XS.istore X0.here hx rfl (hb hby at_156) rfl (l' := #[.val (.int k), .val (.int f), .val (.int x0), .val (.int x1), .val (.int x2), .val (.int N.toInt32), .val (.int b0), .val (.int b1), .val (.int b2), .val (.ref arr), .val (.int fr), .unset, .val (.int b2)]) rfl kk_) ?_
          show OwnG p e below s _ _ _ (T0.setTop (mkF m 158 #[.val (.int k), .val (.int f), .val (.int x0), .val (.int x1), .val (.int x2), .val (.int N.toInt32), .val (.int b0), .val (.int b1), .val (.int b2), .val (.ref arr), .val (.int fr), .unset, .val (.int b2)] []))
          refine own_by (fun t kk_ => XS.iload X0.here hx rfl (hb hby at_158) rfl  kk_) ?_
          show OwnG p e below s _ _ _ (T0.setTop (mkF m 160 #[.val (.int k), .val (.int f), .val (.int x0), .val (.int x1), .val (.int x2), .val (.int N.toInt32), .val (.int b0), .val (.int b1), .val (.int b2), .val (.ref arr), .val (.int fr), .unset, .val (.int b2)] [(.int b2)]))
          refine own_by (fun t kk_ => XS.iconst X0.here hx rfl (hb hby at_160) kk_) ?_
          show OwnG p e below s _ _ _ (T0.setTop (mkF m 161 #[.val (.int k), .val (.int f), .val (.int x0), .val (.int x1), .val (.int x2), .val (.int N.toInt32), .val (.int b0), .val (.int b1), .val (.int b2), .val (.ref arr), .val (.int fr), .unset, .val (.int b2)] [(.int (2 : Int32)), (.int b2)]))
          by_cases hb161_11 : b2 = (2 : Int32)
          · refine own_by (fun t kk_ => XS.icmpNo X0.here hx rfl (hb hby at_161) rfl (teq hb161_11).2 kk_) ?_
            show OwnG p e below s _ _ _ (T0.setTop (mkF m 164 #[.val (.int k), .val (.int f), .val (.int x0), .val (.int x1), .val (.int x2), .val (.int N.toInt32), .val (.int b0), .val (.int b1), .val (.int b2), .val (.ref arr), .val (.int fr), .unset, .val (.int b2)] []))
            refine own_by (fun t kk_ => XS.iconst X0.here hx rfl (hb hby at_164) kk_) ?_
            show OwnG p e below s _ _ _ (T0.setTop (mkF m 165 #[.val (.int k), .val (.int f), .val (.int x0), .val (.int x1), .val (.int x2), .val (.int N.toInt32), .val (.int b0), .val (.int b1), .val (.int b2), .val (.ref arr), .val (.int fr), .unset, .val (.int b2)] [(.int (1 : Int32))]))
            refine own_by (fun t kk_ => XS.goto X0.here hx rfl (pc0 := 165) (pc' := 169) rfl (hb hby at_165) (by decide) (by decide) kk_) ?_
            show OwnG p e below s _ _ _ (T0.setTop (mkF m 169 #[.val (.int k), .val (.int f), .val (.int x0), .val (.int x1), .val (.int x2), .val (.int N.toInt32), .val (.int b0), .val (.int b1), .val (.int b2), .val (.ref arr), .val (.int fr), .unset, .val (.int b2)] [(.int (1 : Int32))]))
            refine own_by (fun t kk_ => XS.istore X0.here hx rfl (hb hby at_169) rfl (l' := #[.val (.int k), .val (.int f), .val (.int x0), .val (.int x1), .val (.int x2), .val (.int N.toInt32), .val (.int b0), .val (.int b1), .val (.int b2), .val (.ref arr), .val (.int fr), .val (.int (1 : Int32)), .val (.int b2)]) rfl kk_) ?_
            show OwnG p e below s _ _ _ (T0.setTop (mkF m 171 #[.val (.int k), .val (.int f), .val (.int x0), .val (.int x1), .val (.int x2), .val (.int N.toInt32), .val (.int b0), .val (.int b1), .val (.int b2), .val (.ref arr), .val (.int fr), .val (.int (1 : Int32)), .val (.int b2)] []))
            refine own_by (fun t kk_ => XS.aload X0.here hx rfl (hb hby at_171) rfl rfl kk_) ?_
            show OwnG p e below s _ _ _ (T0.setTop (mkF m 173 #[.val (.int k), .val (.int f), .val (.int x0), .val (.int x1), .val (.int x2), .val (.int N.toInt32), .val (.int b0), .val (.int b1), .val (.int b2), .val (.ref arr), .val (.int fr), .val (.int (1 : Int32)), .val (.int b2)] [(.ref arr)]))
            refine own_by (fun t kk_ => XS.iload X0.here hx rfl (hb hby at_173) rfl  kk_) ?_
            show OwnG p e below s _ _ _ (T0.setTop (mkF m 175 #[.val (.int k), .val (.int f), .val (.int x0), .val (.int x1), .val (.int x2), .val (.int N.toInt32), .val (.int b0), .val (.int b1), .val (.int b2), .val (.ref arr), .val (.int fr), .val (.int (1 : Int32)), .val (.int b2)] [(.int fr), (.ref arr)]))
            obtain ⟨_, _, ⟨T12, L12, k12, n12⟩, -, X12, ⟨Lc12, hQ12, l12, y12, z12⟩, st12⟩ := Jvm.LawKit.callS X0 hx (y := (⟨"com/example/syncline/syncline/transport/Packets", "isView", "([BI)Z"⟩ : MethodName)) hown (mvT hZ (hw _ (List.mem_of_getElem? (i := 5) rfl))) (mvT hZ (hw _ (List.mem_of_getElem? (i := 6) rfl))) (mvT hZ (hw _ (List.mem_of_getElem? (i := 7) rfl))) (mvT hZ (hw _ (List.mem_of_getElem? (i := 8) rfl))) (by decide) (backOf (W := 0) (rm2 l Z a0 hw [] arr fr N (own_g b0 b1 b2) h0 n0 Z0 A0 h_fr0) hZ (hw _ (List.mem_of_getElem? (i := 8) rfl)) (hw _ (List.mem_of_getElem? (i := 7) rfl)) (by decide) (by decide)) (g := (mkF m 175 #[.val (.int k), .val (.int f), .val (.int x0), .val (.int x1), .val (.int x2), .val (.int N.toInt32), .val (.int b0), .val (.int b1), .val (.int b2), .val (.ref arr), .val (.int fr), .val (.int (1 : Int32)), .val (.int b2)] [(.int fr), (.ref arr)])) rfl (by rw [hml]; rfl) (argsL := [(.ref arr), (.int fr)]) (rest := []) (lenOf pd_1 rfl) rfl (by show 2 * 0 + _ ≤ _; exact Nat.le_of_eq rfl) (hb hby at_175) (fun _ _ => ⟨rfl, e0, (by decide : 0 + 1 + 0 ≤ _), (by decide : 0 + 3 + 0 ≤ _)⟩)
            dsimp only [Pt.U, Pt.locs, Pt.cells, Pt.slots] at X12 l12 y12 z12 st12 hQ12
            subst l12 y12 z12
            refine own_by (fun t kk_ => st12 _ kk_) ?_
            obtain ⟨rfl, N12q, hh12⟩ := hQ12
            have N12 := Fr.app N0 N12q
            show OwnG p e below s _ _ _ (T12.setTop (mkF m 178 #[.val (.int k), .val (.int f), .val (.int x0), .val (.int x1), .val (.int x2), .val (.int N.toInt32), .val (.int b0), .val (.int b1), .val (.int b2), .val (.ref arr), .val (.int fr), .val (.int (1 : Int32)), .val (.int b2)] [(.int (own_r fr N (own_g b0 b1 b2)))]))
            refine own_by (fun t kk_ => XS.iload X12.here hx rfl (hb hby at_178) rfl  kk_) ?_
            show OwnG p e below s _ _ _ (T12.setTop (mkF m 180 #[.val (.int k), .val (.int f), .val (.int x0), .val (.int x1), .val (.int x2), .val (.int N.toInt32), .val (.int b0), .val (.int b1), .val (.int b2), .val (.ref arr), .val (.int fr), .val (.int (1 : Int32)), .val (.int b2)] [(.int (1 : Int32)), (.int (own_r fr N (own_g b0 b1 b2)))]))
            refine own_by (fun t kk_ => XS.icmpNo X12.here hx rfl (hb hby at_180) rfl (teq (own_rB hb124_2 (by omega) h_fr0 (hat.2.2 hb135_3 hb146_7) hb161_11)).2 kk_) ?_
            show OwnG p e below s _ _ _ (T12.setTop (mkF m 183 #[.val (.int k), .val (.int f), .val (.int x0), .val (.int x1), .val (.int x2), .val (.int N.toInt32), .val (.int b0), .val (.int b1), .val (.int b2), .val (.ref arr), .val (.int fr), .val (.int (1 : Int32)), .val (.int b2)] []))
            refine own_by (fun t kk_ => XS.iconst X12.here hx rfl (hb hby at_183) kk_) ?_
            show OwnG p e below s _ _ _ (T12.setTop (mkF m 184 #[.val (.int k), .val (.int f), .val (.int x0), .val (.int x1), .val (.int x2), .val (.int N.toInt32), .val (.int b0), .val (.int b1), .val (.int b2), .val (.ref arr), .val (.int fr), .val (.int (1 : Int32)), .val (.int b2)] [(.int (1 : Int32))]))
            refine own_by (fun t kk_ => XS.goto X12.here hx rfl (pc0 := 184) (pc' := 188) rfl (hb hby at_184) (by decide) (by decide) kk_) ?_
            show OwnG p e below s _ _ _ (T12.setTop (mkF m 188 #[.val (.int k), .val (.int f), .val (.int x0), .val (.int x1), .val (.int x2), .val (.int N.toInt32), .val (.int b0), .val (.int b1), .val (.int b2), .val (.ref arr), .val (.int fr), .val (.int (1 : Int32)), .val (.int b2)] [(.int (1 : Int32))]))
            exact own_outN X12 hx hret (by simp) hlk (hb hby at_188) rfl (⟨rfl, N12⟩) (by decide) (by decide)
          · refine own_by (fun t kk_ => XS.icmpYes X0.here hx rfl (pc0 := 161) (pc' := 168) rfl (hb hby at_161) rfl (feq hb161_11).2 (by decide) (by decide) kk_) ?_
            show OwnG p e below s _ _ _ (T0.setTop (mkF m 168 #[.val (.int k), .val (.int f), .val (.int x0), .val (.int x1), .val (.int x2), .val (.int N.toInt32), .val (.int b0), .val (.int b1), .val (.int b2), .val (.ref arr), .val (.int fr), .unset, .val (.int b2)] []))
            refine own_by (fun t kk_ => XS.iconst X0.here hx rfl (hb hby at_168) kk_) ?_
            show OwnG p e below s _ _ _ (T0.setTop (mkF m 169 #[.val (.int k), .val (.int f), .val (.int x0), .val (.int x1), .val (.int x2), .val (.int N.toInt32), .val (.int b0), .val (.int b1), .val (.int b2), .val (.ref arr), .val (.int fr), .unset, .val (.int b2)] [(.int (0 : Int32))]))
            refine own_by (fun t kk_ => XS.istore X0.here hx rfl (hb hby at_169) rfl (l' := #[.val (.int k), .val (.int f), .val (.int x0), .val (.int x1), .val (.int x2), .val (.int N.toInt32), .val (.int b0), .val (.int b1), .val (.int b2), .val (.ref arr), .val (.int fr), .val (.int (0 : Int32)), .val (.int b2)]) rfl kk_) ?_
            show OwnG p e below s _ _ _ (T0.setTop (mkF m 171 #[.val (.int k), .val (.int f), .val (.int x0), .val (.int x1), .val (.int x2), .val (.int N.toInt32), .val (.int b0), .val (.int b1), .val (.int b2), .val (.ref arr), .val (.int fr), .val (.int (0 : Int32)), .val (.int b2)] []))
            refine own_by (fun t kk_ => XS.aload X0.here hx rfl (hb hby at_171) rfl rfl kk_) ?_
            show OwnG p e below s _ _ _ (T0.setTop (mkF m 173 #[.val (.int k), .val (.int f), .val (.int x0), .val (.int x1), .val (.int x2), .val (.int N.toInt32), .val (.int b0), .val (.int b1), .val (.int b2), .val (.ref arr), .val (.int fr), .val (.int (0 : Int32)), .val (.int b2)] [(.ref arr)]))
            refine own_by (fun t kk_ => XS.iload X0.here hx rfl (hb hby at_173) rfl  kk_) ?_
            show OwnG p e below s _ _ _ (T0.setTop (mkF m 175 #[.val (.int k), .val (.int f), .val (.int x0), .val (.int x1), .val (.int x2), .val (.int N.toInt32), .val (.int b0), .val (.int b1), .val (.int b2), .val (.ref arr), .val (.int fr), .val (.int (0 : Int32)), .val (.int b2)] [(.int fr), (.ref arr)]))
            obtain ⟨_, _, ⟨T13, L13, k13, n13⟩, -, X13, ⟨Lc13, hQ13, l13, y13, z13⟩, st13⟩ := Jvm.LawKit.callS X0 hx (y := (⟨"com/example/syncline/syncline/transport/Packets", "isView", "([BI)Z"⟩ : MethodName)) hown (mvT hZ (hw _ (List.mem_of_getElem? (i := 5) rfl))) (mvT hZ (hw _ (List.mem_of_getElem? (i := 6) rfl))) (mvT hZ (hw _ (List.mem_of_getElem? (i := 7) rfl))) (mvT hZ (hw _ (List.mem_of_getElem? (i := 8) rfl))) (by decide) (backOf (W := 0) (rm2 l Z a0 hw [] arr fr N (own_g b0 b1 b2) h0 n0 Z0 A0 h_fr0) hZ (hw _ (List.mem_of_getElem? (i := 8) rfl)) (hw _ (List.mem_of_getElem? (i := 7) rfl)) (by decide) (by decide)) (g := (mkF m 175 #[.val (.int k), .val (.int f), .val (.int x0), .val (.int x1), .val (.int x2), .val (.int N.toInt32), .val (.int b0), .val (.int b1), .val (.int b2), .val (.ref arr), .val (.int fr), .val (.int (0 : Int32)), .val (.int b2)] [(.int fr), (.ref arr)])) rfl (by rw [hml]; rfl) (argsL := [(.ref arr), (.int fr)]) (rest := []) (lenOf pd_1 rfl) rfl (by show 2 * 0 + _ ≤ _; exact Nat.le_of_eq rfl) (hb hby at_175) (fun _ _ => ⟨rfl, e0, (by decide : 0 + 1 + 0 ≤ _), (by decide : 0 + 3 + 0 ≤ _)⟩)
            dsimp only [Pt.U, Pt.locs, Pt.cells, Pt.slots] at X13 l13 y13 z13 st13 hQ13
            subst l13 y13 z13
            refine own_by (fun t kk_ => st13 _ kk_) ?_
            obtain ⟨rfl, N13q, hh13⟩ := hQ13
            have N13 := Fr.app N0 N13q
            show OwnG p e below s _ _ _ (T13.setTop (mkF m 178 #[.val (.int k), .val (.int f), .val (.int x0), .val (.int x1), .val (.int x2), .val (.int N.toInt32), .val (.int b0), .val (.int b1), .val (.int b2), .val (.ref arr), .val (.int fr), .val (.int (0 : Int32)), .val (.int b2)] [(.int (own_r fr N (own_g b0 b1 b2)))]))
            refine own_by (fun t kk_ => XS.iload X13.here hx rfl (hb hby at_178) rfl  kk_) ?_
            show OwnG p e below s _ _ _ (T13.setTop (mkF m 180 #[.val (.int k), .val (.int f), .val (.int x0), .val (.int x1), .val (.int x2), .val (.int N.toInt32), .val (.int b0), .val (.int b1), .val (.int b2), .val (.ref arr), .val (.int fr), .val (.int (0 : Int32)), .val (.int b2)] [(.int (0 : Int32)), (.int (own_r fr N (own_g b0 b1 b2)))]))
            refine own_by (fun t kk_ => XS.icmpNo X13.here hx rfl (hb hby at_180) rfl (teq (own_rC (hat.2.2 hb135_3 hb146_7) hb161_11)).2 kk_) ?_
            show OwnG p e below s _ _ _ (T13.setTop (mkF m 183 #[.val (.int k), .val (.int f), .val (.int x0), .val (.int x1), .val (.int x2), .val (.int N.toInt32), .val (.int b0), .val (.int b1), .val (.int b2), .val (.ref arr), .val (.int fr), .val (.int (0 : Int32)), .val (.int b2)] []))
            refine own_by (fun t kk_ => XS.iconst X13.here hx rfl (hb hby at_183) kk_) ?_
            show OwnG p e below s _ _ _ (T13.setTop (mkF m 184 #[.val (.int k), .val (.int f), .val (.int x0), .val (.int x1), .val (.int x2), .val (.int N.toInt32), .val (.int b0), .val (.int b1), .val (.int b2), .val (.ref arr), .val (.int fr), .val (.int (0 : Int32)), .val (.int b2)] [(.int (1 : Int32))]))
            refine own_by (fun t kk_ => XS.goto X13.here hx rfl (pc0 := 184) (pc' := 188) rfl (hb hby at_184) (by decide) (by decide) kk_) ?_
            show OwnG p e below s _ _ _ (T13.setTop (mkF m 188 #[.val (.int k), .val (.int f), .val (.int x0), .val (.int x1), .val (.int x2), .val (.int N.toInt32), .val (.int b0), .val (.int b1), .val (.int b2), .val (.ref arr), .val (.int fr), .val (.int (0 : Int32)), .val (.int b2)] [(.int (1 : Int32))]))
            exact own_outN X13 hx hret (by simp) hlk (hb hby at_188) rfl (⟨rfl, N13⟩) (by decide) (by decide)
    · refine own_by (fun t kk_ => XS.icmpNo X0.here hx rfl (hb hby at_124) rfl (flt hb124_2).1 kk_) ?_
      show OwnG p e below s _ _ _ (T0.setTop (mkF m 127 #[.val (.int k), .val (.int f), .val (.int x0), .val (.int x1), .val (.int x2), .val (.int N.toInt32), .val (.int b0), .val (.int b1), .val (.int b2), .val (.ref arr), .val (.int fr), .unset, .unset] []))
      refine own_by (fun t kk_ => XS.iconst X0.here hx rfl (hb hby at_127) kk_) ?_
      show OwnG p e below s _ _ _ (T0.setTop (mkF m 128 #[.val (.int k), .val (.int f), .val (.int x0), .val (.int x1), .val (.int x2), .val (.int N.toInt32), .val (.int b0), .val (.int b1), .val (.int b2), .val (.ref arr), .val (.int fr), .unset, .unset] [(.int (0 : Int32))]))
      refine own_by (fun t kk_ => XS.istore X0.here hx rfl (hb hby at_128) rfl (l' := #[.val (.int k), .val (.int f), .val (.int x0), .val (.int x1), .val (.int x2), .val (.int N.toInt32), .val (.int b0), .val (.int b1), .val (.int b2), .val (.ref arr), .val (.int fr), .val (.int (0 : Int32)), .unset]) rfl kk_) ?_
      show OwnG p e below s _ _ _ (T0.setTop (mkF m 130 #[.val (.int k), .val (.int f), .val (.int x0), .val (.int x1), .val (.int x2), .val (.int N.toInt32), .val (.int b0), .val (.int b1), .val (.int b2), .val (.ref arr), .val (.int fr), .val (.int (0 : Int32)), .unset] []))
      refine own_by (fun t kk_ => XS.goto X0.here hx rfl (pc0 := 130) (pc' := 171) rfl (hb hby at_130) (by decide) (by decide) kk_) ?_
      show OwnG p e below s _ _ _ (T0.setTop (mkF m 171 #[.val (.int k), .val (.int f), .val (.int x0), .val (.int x1), .val (.int x2), .val (.int N.toInt32), .val (.int b0), .val (.int b1), .val (.int b2), .val (.ref arr), .val (.int fr), .val (.int (0 : Int32)), .unset] []))
      refine own_by (fun t kk_ => XS.aload X0.here hx rfl (hb hby at_171) rfl rfl kk_) ?_
      show OwnG p e below s _ _ _ (T0.setTop (mkF m 173 #[.val (.int k), .val (.int f), .val (.int x0), .val (.int x1), .val (.int x2), .val (.int N.toInt32), .val (.int b0), .val (.int b1), .val (.int b2), .val (.ref arr), .val (.int fr), .val (.int (0 : Int32)), .unset] [(.ref arr)]))
      refine own_by (fun t kk_ => XS.iload X0.here hx rfl (hb hby at_173) rfl  kk_) ?_
      show OwnG p e below s _ _ _ (T0.setTop (mkF m 175 #[.val (.int k), .val (.int f), .val (.int x0), .val (.int x1), .val (.int x2), .val (.int N.toInt32), .val (.int b0), .val (.int b1), .val (.int b2), .val (.ref arr), .val (.int fr), .val (.int (0 : Int32)), .unset] [(.int fr), (.ref arr)]))
      obtain ⟨_, _, ⟨T14, L14, k14, n14⟩, -, X14, ⟨Lc14, hQ14, l14, y14, z14⟩, st14⟩ := Jvm.LawKit.callS X0 hx (y := (⟨"com/example/syncline/syncline/transport/Packets", "isView", "([BI)Z"⟩ : MethodName)) hown (mvT hZ (hw _ (List.mem_of_getElem? (i := 5) rfl))) (mvT hZ (hw _ (List.mem_of_getElem? (i := 6) rfl))) (mvT hZ (hw _ (List.mem_of_getElem? (i := 7) rfl))) (mvT hZ (hw _ (List.mem_of_getElem? (i := 8) rfl))) (by decide) (backOf (W := 0) (rm2 l Z a0 hw [] arr fr N (own_g b0 b1 b2) h0 n0 Z0 A0 h_fr0) hZ (hw _ (List.mem_of_getElem? (i := 8) rfl)) (hw _ (List.mem_of_getElem? (i := 7) rfl)) (by decide) (by decide)) (g := (mkF m 175 #[.val (.int k), .val (.int f), .val (.int x0), .val (.int x1), .val (.int x2), .val (.int N.toInt32), .val (.int b0), .val (.int b1), .val (.int b2), .val (.ref arr), .val (.int fr), .val (.int (0 : Int32)), .unset] [(.int fr), (.ref arr)])) rfl (by rw [hml]; rfl) (argsL := [(.ref arr), (.int fr)]) (rest := []) (lenOf pd_1 rfl) rfl (by show 2 * 0 + _ ≤ _; exact Nat.le_of_eq rfl) (hb hby at_175) (fun _ _ => ⟨rfl, e0, (by decide : 0 + 1 + 0 ≤ _), (by decide : 0 + 3 + 0 ≤ _)⟩)
      dsimp only [Pt.U, Pt.locs, Pt.cells, Pt.slots] at X14 l14 y14 z14 st14 hQ14
      subst l14 y14 z14
      refine own_by (fun t kk_ => st14 _ kk_) ?_
      obtain ⟨rfl, N14q, hh14⟩ := hQ14
      have N14 := Fr.app N0 N14q
      show OwnG p e below s _ _ _ (T14.setTop (mkF m 178 #[.val (.int k), .val (.int f), .val (.int x0), .val (.int x1), .val (.int x2), .val (.int N.toInt32), .val (.int b0), .val (.int b1), .val (.int b2), .val (.ref arr), .val (.int fr), .val (.int (0 : Int32)), .unset] [(.int (own_r fr N (own_g b0 b1 b2)))]))
      refine own_by (fun t kk_ => XS.iload X14.here hx rfl (hb hby at_178) rfl  kk_) ?_
      show OwnG p e below s _ _ _ (T14.setTop (mkF m 180 #[.val (.int k), .val (.int f), .val (.int x0), .val (.int x1), .val (.int x2), .val (.int N.toInt32), .val (.int b0), .val (.int b1), .val (.int b2), .val (.ref arr), .val (.int fr), .val (.int (0 : Int32)), .unset] [(.int (0 : Int32)), (.int (own_r fr N (own_g b0 b1 b2)))]))
      refine own_by (fun t kk_ => XS.icmpNo X14.here hx rfl (hb hby at_180) rfl (teq (own_rA hb124_2 (by omega))).2 kk_) ?_
      show OwnG p e below s _ _ _ (T14.setTop (mkF m 183 #[.val (.int k), .val (.int f), .val (.int x0), .val (.int x1), .val (.int x2), .val (.int N.toInt32), .val (.int b0), .val (.int b1), .val (.int b2), .val (.ref arr), .val (.int fr), .val (.int (0 : Int32)), .unset] []))
      refine own_by (fun t kk_ => XS.iconst X14.here hx rfl (hb hby at_183) kk_) ?_
      show OwnG p e below s _ _ _ (T14.setTop (mkF m 184 #[.val (.int k), .val (.int f), .val (.int x0), .val (.int x1), .val (.int x2), .val (.int N.toInt32), .val (.int b0), .val (.int b1), .val (.int b2), .val (.ref arr), .val (.int fr), .val (.int (0 : Int32)), .unset] [(.int (1 : Int32))]))
      refine own_by (fun t kk_ => XS.goto X14.here hx rfl (pc0 := 184) (pc' := 188) rfl (hb hby at_184) (by decide) (by decide) kk_) ?_
      show OwnG p e below s _ _ _ (T14.setTop (mkF m 188 #[.val (.int k), .val (.int f), .val (.int x0), .val (.int x1), .val (.int x2), .val (.int N.toInt32), .val (.int b0), .val (.int b1), .val (.int b2), .val (.ref arr), .val (.int fr), .val (.int (0 : Int32)), .unset] [(.int (1 : Int32))]))
      exact own_outN X14 hx hret (by simp) hlk (hb hby at_188) rfl (⟨rfl, N14⟩) (by decide) (by decide)
  · refine own_by (fun t kk_ => XS.ifNo X0.here hx rfl (hb hby at_104) rfl ((if0 _ _).trans (feq hb104_1).1) kk_) ?_
    show OwnG p e below s _ _ _ (T0.setTop (mkF m 107 #[.val (.int k), .val (.int f), .val (.int x0), .val (.int x1), .val (.int x2), .val (.int N.toInt32), .val (.int b0), .val (.int b1), .val (.int b2), .val (.ref arr), .unset, .unset, .unset] []))
    refine own_by (fun t kk_ => XS.iloadN X0.here hx rfl (hb hby at_107) rfl  kk_) ?_
    show OwnG p e below s _ _ _ (T0.setTop (mkF m 108 #[.val (.int k), .val (.int f), .val (.int x0), .val (.int x1), .val (.int x2), .val (.int N.toInt32), .val (.int b0), .val (.int b1), .val (.int b2), .val (.ref arr), .unset, .unset, .unset] [(.int f)]))
    refine own_by (fun t kk_ => X0.ldcInt hx hown (mvT hZ (hw _ (List.mem_of_getElem? (i := 9) rfl))) (g := (mkF m 108 #[.val (.int k), .val (.int f), .val (.int x0), .val (.int x1), .val (.int x2), .val (.int N.toInt32), .val (.int b0), .val (.int b1), .val (.int b2), .val (.ref arr), .unset, .unset, .unset] [(.int f)])) rfl (hb hby at_108) _ kk_) ?_
    show OwnG p e below s _ _ _ (T0.setTop (mkF m 110 #[.val (.int k), .val (.int f), .val (.int x0), .val (.int x1), .val (.int x2), .val (.int N.toInt32), .val (.int b0), .val (.int b1), .val (.int b2), .val (.ref arr), .unset, .unset, .unset] [(.int (2147483647 : Int32)), (.int f)]))
    refine own_by (fun t kk_ => XS.iand X0.here hx rfl (hb hby at_110) rfl kk_) ?_
    show OwnG p e below s _ _ _ (T0.setTop (mkF m 111 #[.val (.int k), .val (.int f), .val (.int x0), .val (.int x1), .val (.int x2), .val (.int N.toInt32), .val (.int b0), .val (.int b1), .val (.int b2), .val (.ref arr), .unset, .unset, .unset] [(.int (f &&& (2147483647 : Int32)))]))
    refine own_by (fun t kk_ => XS.goto X0.here hx rfl (pc0 := 111) (pc' := 118) rfl (hb hby at_111) (by decide) (by decide) kk_) ?_
    show OwnG p e below s _ _ _ (T0.setTop (mkF m 118 #[.val (.int k), .val (.int f), .val (.int x0), .val (.int x1), .val (.int x2), .val (.int N.toInt32), .val (.int b0), .val (.int b1), .val (.int b2), .val (.ref arr), .unset, .unset, .unset] [(.int (f &&& (2147483647 : Int32)))]))
    have h_fr0 : ¬ (f &&& (2147483647 : Int32)) < 0 := own_and _ _ (by decide)
    generalize (f &&& (2147483647 : Int32)) = fr at h_fr0 ⊢
    show OwnG p e below s _ _ _ (T0.setTop (mkF m 118 #[.val (.int k), .val (.int f), .val (.int x0), .val (.int x1), .val (.int x2), .val (.int N.toInt32), .val (.int b0), .val (.int b1), .val (.int b2), .val (.ref arr), .unset, .unset, .unset] [(.int fr)]))
    refine own_by (fun t kk_ => XS.istore X0.here hx rfl (hb hby at_118) rfl (l' := #[.val (.int k), .val (.int f), .val (.int x0), .val (.int x1), .val (.int x2), .val (.int N.toInt32), .val (.int b0), .val (.int b1), .val (.int b2), .val (.ref arr), .val (.int fr), .unset, .unset]) rfl kk_) ?_
    show OwnG p e below s _ _ _ (T0.setTop (mkF m 120 #[.val (.int k), .val (.int f), .val (.int x0), .val (.int x1), .val (.int x2), .val (.int N.toInt32), .val (.int b0), .val (.int b1), .val (.int b2), .val (.ref arr), .val (.int fr), .unset, .unset] []))
    refine own_by (fun t kk_ => XS.iload X0.here hx rfl (hb hby at_120) rfl  kk_) ?_
    show OwnG p e below s _ _ _ (T0.setTop (mkF m 122 #[.val (.int k), .val (.int f), .val (.int x0), .val (.int x1), .val (.int x2), .val (.int N.toInt32), .val (.int b0), .val (.int b1), .val (.int b2), .val (.ref arr), .val (.int fr), .unset, .unset] [(.int fr)]))
    refine own_by (fun t kk_ => XS.iload X0.here hx rfl (hb hby at_122) rfl  kk_) ?_
    show OwnG p e below s _ _ _ (T0.setTop (mkF m 124 #[.val (.int k), .val (.int f), .val (.int x0), .val (.int x1), .val (.int x2), .val (.int N.toInt32), .val (.int b0), .val (.int b1), .val (.int b2), .val (.ref arr), .val (.int fr), .unset, .unset] [(.int N.toInt32), (.int fr)]))
    by_cases hb124_15 : fr < N.toInt32
    · have hat := own_at (b0 := b0) (b1 := b1) (b2 := b2) hb124_15 hN3 h_fr0
      refine own_by (fun t kk_ => XS.icmpYes X0.here hx rfl (pc0 := 124) (pc' := 133) rfl (hb hby at_124) rfl (tlt hb124_15).1 (by decide) (by decide) kk_) ?_
      show OwnG p e below s _ _ _ (T0.setTop (mkF m 133 #[.val (.int k), .val (.int f), .val (.int x0), .val (.int x1), .val (.int x2), .val (.int N.toInt32), .val (.int b0), .val (.int b1), .val (.int b2), .val (.ref arr), .val (.int fr), .unset, .unset] []))
      refine own_by (fun t kk_ => XS.iload X0.here hx rfl (hb hby at_133) rfl  kk_) ?_
      show OwnG p e below s _ _ _ (T0.setTop (mkF m 135 #[.val (.int k), .val (.int f), .val (.int x0), .val (.int x1), .val (.int x2), .val (.int N.toInt32), .val (.int b0), .val (.int b1), .val (.int b2), .val (.ref arr), .val (.int fr), .unset, .unset] [(.int fr)]))
      by_cases hb135_16 : fr = (0 : Int32)
      · refine own_by (fun t kk_ => XS.ifNo X0.here hx rfl (hb hby at_135) rfl ((if0 _ _).trans (teq hb135_16).2) kk_) ?_
        show OwnG p e below s _ _ _ (T0.setTop (mkF m 138 #[.val (.int k), .val (.int f), .val (.int x0), .val (.int x1), .val (.int x2), .val (.int N.toInt32), .val (.int b0), .val (.int b1), .val (.int b2), .val (.ref arr), .val (.int fr), .unset, .unset] []))
        refine own_by (fun t kk_ => XS.iload X0.here hx rfl (hb hby at_138) rfl  kk_) ?_
        show OwnG p e below s _ _ _ (T0.setTop (mkF m 140 #[.val (.int k), .val (.int f), .val (.int x0), .val (.int x1), .val (.int x2), .val (.int N.toInt32), .val (.int b0), .val (.int b1), .val (.int b2), .val (.ref arr), .val (.int fr), .unset, .unset] [(.int b0)]))
        refine own_by (fun t kk_ => XS.goto X0.here hx rfl (pc0 := 140) (pc' := 156) rfl (hb hby at_140) (by decide) (by decide) kk_) ?_
        show OwnG p e below s _ _ _ (T0.setTop (mkF m 156 #[.val (.int k), .val (.int f), .val (.int x0), .val (.int x1), .val (.int x2), .val (.int N.toInt32), .val (.int b0), .val (.int b1), .val (.int b2), .val (.ref arr), .val (.int fr), .unset, .unset] [(.int b0)]))
        refine own_by (fun t kk_ => XS.istore X0.here hx rfl (hb hby at_156) rfl (l' := #[.val (.int k), .val (.int f), .val (.int x0), .val (.int x1), .val (.int x2), .val (.int N.toInt32), .val (.int b0), .val (.int b1), .val (.int b2), .val (.ref arr), .val (.int fr), .unset, .val (.int b0)]) rfl kk_) ?_
        show OwnG p e below s _ _ _ (T0.setTop (mkF m 158 #[.val (.int k), .val (.int f), .val (.int x0), .val (.int x1), .val (.int x2), .val (.int N.toInt32), .val (.int b0), .val (.int b1), .val (.int b2), .val (.ref arr), .val (.int fr), .unset, .val (.int b0)] []))
        refine own_by (fun t kk_ => XS.iload X0.here hx rfl (hb hby at_158) rfl  kk_) ?_
        show OwnG p e below s _ _ _ (T0.setTop (mkF m 160 #[.val (.int k), .val (.int f), .val (.int x0), .val (.int x1), .val (.int x2), .val (.int N.toInt32), .val (.int b0), .val (.int b1), .val (.int b2), .val (.ref arr), .val (.int fr), .unset, .val (.int b0)] [(.int b0)]))
        refine own_by (fun t kk_ => XS.iconst X0.here hx rfl (hb hby at_160) kk_) ?_
        show OwnG p e below s _ _ _ (T0.setTop (mkF m 161 #[.val (.int k), .val (.int f), .val (.int x0), .val (.int x1), .val (.int x2), .val (.int N.toInt32), .val (.int b0), .val (.int b1), .val (.int b2), .val (.ref arr), .val (.int fr), .unset, .val (.int b0)] [(.int (2 : Int32)), (.int b0)]))
        by_cases hb161_17 : b0 = (2 : Int32)
        · refine own_by (fun t kk_ => XS.icmpNo X0.here hx rfl (hb hby at_161) rfl (teq hb161_17).2 kk_) ?_
          show OwnG p e below s _ _ _ (T0.setTop (mkF m 164 #[.val (.int k), .val (.int f), .val (.int x0), .val (.int x1), .val (.int x2), .val (.int N.toInt32), .val (.int b0), .val (.int b1), .val (.int b2), .val (.ref arr), .val (.int fr), .unset, .val (.int b0)] []))
          refine own_by (fun t kk_ => XS.iconst X0.here hx rfl (hb hby at_164) kk_) ?_
          show OwnG p e below s _ _ _ (T0.setTop (mkF m 165 #[.val (.int k), .val (.int f), .val (.int x0), .val (.int x1), .val (.int x2), .val (.int N.toInt32), .val (.int b0), .val (.int b1), .val (.int b2), .val (.ref arr), .val (.int fr), .unset, .val (.int b0)] [(.int (1 : Int32))]))
          refine own_by (fun t kk_ => XS.goto X0.here hx rfl (pc0 := 165) (pc' := 169) rfl (hb hby at_165) (by decide) (by decide) kk_) ?_
          show OwnG p e below s _ _ _ (T0.setTop (mkF m 169 #[.val (.int k), .val (.int f), .val (.int x0), .val (.int x1), .val (.int x2), .val (.int N.toInt32), .val (.int b0), .val (.int b1), .val (.int b2), .val (.ref arr), .val (.int fr), .unset, .val (.int b0)] [(.int (1 : Int32))]))
          refine own_by (fun t kk_ => XS.istore X0.here hx rfl (hb hby at_169) rfl (l' := #[.val (.int k), .val (.int f), .val (.int x0), .val (.int x1), .val (.int x2), .val (.int N.toInt32), .val (.int b0), .val (.int b1), .val (.int b2), .val (.ref arr), .val (.int fr), .val (.int (1 : Int32)), .val (.int b0)]) rfl kk_) ?_
          show OwnG p e below s _ _ _ (T0.setTop (mkF m 171 #[.val (.int k), .val (.int f), .val (.int x0), .val (.int x1), .val (.int x2), .val (.int N.toInt32), .val (.int b0), .val (.int b1), .val (.int b2), .val (.ref arr), .val (.int fr), .val (.int (1 : Int32)), .val (.int b0)] []))
          refine own_by (fun t kk_ => XS.aload X0.here hx rfl (hb hby at_171) rfl rfl kk_) ?_
          show OwnG p e below s _ _ _ (T0.setTop (mkF m 173 #[.val (.int k), .val (.int f), .val (.int x0), .val (.int x1), .val (.int x2), .val (.int N.toInt32), .val (.int b0), .val (.int b1), .val (.int b2), .val (.ref arr), .val (.int fr), .val (.int (1 : Int32)), .val (.int b0)] [(.ref arr)]))
          refine own_by (fun t kk_ => XS.iload X0.here hx rfl (hb hby at_173) rfl  kk_) ?_
          show OwnG p e below s _ _ _ (T0.setTop (mkF m 175 #[.val (.int k), .val (.int f), .val (.int x0), .val (.int x1), .val (.int x2), .val (.int N.toInt32), .val (.int b0), .val (.int b1), .val (.int b2), .val (.ref arr), .val (.int fr), .val (.int (1 : Int32)), .val (.int b0)] [(.int fr), (.ref arr)]))
          obtain ⟨_, _, ⟨T18, L18, k18, n18⟩, -, X18, ⟨Lc18, hQ18, l18, y18, z18⟩, st18⟩ := Jvm.LawKit.callS X0 hx (y := (⟨"com/example/syncline/syncline/transport/Packets", "isView", "([BI)Z"⟩ : MethodName)) hown (mvT hZ (hw _ (List.mem_of_getElem? (i := 5) rfl))) (mvT hZ (hw _ (List.mem_of_getElem? (i := 6) rfl))) (mvT hZ (hw _ (List.mem_of_getElem? (i := 7) rfl))) (mvT hZ (hw _ (List.mem_of_getElem? (i := 8) rfl))) (by decide) (backOf (W := 0) (rm2 l Z a0 hw [] arr fr N (own_g b0 b1 b2) h0 n0 Z0 A0 h_fr0) hZ (hw _ (List.mem_of_getElem? (i := 8) rfl)) (hw _ (List.mem_of_getElem? (i := 7) rfl)) (by decide) (by decide)) (g := (mkF m 175 #[.val (.int k), .val (.int f), .val (.int x0), .val (.int x1), .val (.int x2), .val (.int N.toInt32), .val (.int b0), .val (.int b1), .val (.int b2), .val (.ref arr), .val (.int fr), .val (.int (1 : Int32)), .val (.int b0)] [(.int fr), (.ref arr)])) rfl (by rw [hml]; rfl) (argsL := [(.ref arr), (.int fr)]) (rest := []) (lenOf pd_1 rfl) rfl (by show 2 * 0 + _ ≤ _; exact Nat.le_of_eq rfl) (hb hby at_175) (fun _ _ => ⟨rfl, e0, (by decide : 0 + 1 + 0 ≤ _), (by decide : 0 + 3 + 0 ≤ _)⟩)
          dsimp only [Pt.U, Pt.locs, Pt.cells, Pt.slots] at X18 l18 y18 z18 st18 hQ18
          subst l18 y18 z18
          refine own_by (fun t kk_ => st18 _ kk_) ?_
          obtain ⟨rfl, N18q, hh18⟩ := hQ18
          have N18 := Fr.app N0 N18q
          show OwnG p e below s _ _ _ (T18.setTop (mkF m 178 #[.val (.int k), .val (.int f), .val (.int x0), .val (.int x1), .val (.int x2), .val (.int N.toInt32), .val (.int b0), .val (.int b1), .val (.int b2), .val (.ref arr), .val (.int fr), .val (.int (1 : Int32)), .val (.int b0)] [(.int (own_r fr N (own_g b0 b1 b2)))]))
          refine own_by (fun t kk_ => XS.iload X18.here hx rfl (hb hby at_178) rfl  kk_) ?_
          show OwnG p e below s _ _ _ (T18.setTop (mkF m 180 #[.val (.int k), .val (.int f), .val (.int x0), .val (.int x1), .val (.int x2), .val (.int N.toInt32), .val (.int b0), .val (.int b1), .val (.int b2), .val (.ref arr), .val (.int fr), .val (.int (1 : Int32)), .val (.int b0)] [(.int (1 : Int32)), (.int (own_r fr N (own_g b0 b1 b2)))]))
          refine own_by (fun t kk_ => XS.icmpNo X18.here hx rfl (hb hby at_180) rfl (teq (own_rB hb124_15 (by omega) h_fr0 (hat.1 hb135_16) hb161_17)).2 kk_) ?_
          show OwnG p e below s _ _ _ (T18.setTop (mkF m 183 #[.val (.int k), .val (.int f), .val (.int x0), .val (.int x1), .val (.int x2), .val (.int N.toInt32), .val (.int b0), .val (.int b1), .val (.int b2), .val (.ref arr), .val (.int fr), .val (.int (1 : Int32)), .val (.int b0)] []))
          refine own_by (fun t kk_ => XS.iconst X18.here hx rfl (hb hby at_183) kk_) ?_
          show OwnG p e below s _ _ _ (T18.setTop (mkF m 184 #[.val (.int k), .val (.int f), .val (.int x0), .val (.int x1), .val (.int x2), .val (.int N.toInt32), .val (.int b0), .val (.int b1), .val (.int b2), .val (.ref arr), .val (.int fr), .val (.int (1 : Int32)), .val (.int b0)] [(.int (1 : Int32))]))
          refine own_by (fun t kk_ => XS.goto X18.here hx rfl (pc0 := 184) (pc' := 188) rfl (hb hby at_184) (by decide) (by decide) kk_) ?_
          show OwnG p e below s _ _ _ (T18.setTop (mkF m 188 #[.val (.int k), .val (.int f), .val (.int x0), .val (.int x1), .val (.int x2), .val (.int N.toInt32), .val (.int b0), .val (.int b1), .val (.int b2), .val (.ref arr), .val (.int fr), .val (.int (1 : Int32)), .val (.int b0)] [(.int (1 : Int32))]))
          exact own_outN X18 hx hret (by simp) hlk (hb hby at_188) rfl (⟨rfl, N18⟩) (by decide) (by decide)
        · refine own_by (fun t kk_ => XS.icmpYes X0.here hx rfl (pc0 := 161) (pc' := 168) rfl (hb hby at_161) rfl (feq hb161_17).2 (by decide) (by decide) kk_) ?_
          show OwnG p e below s _ _ _ (T0.setTop (mkF m 168 #[.val (.int k), .val (.int f), .val (.int x0), .val (.int x1), .val (.int x2), .val (.int N.toInt32), .val (.int b0), .val (.int b1), .val (.int b2), .val (.ref arr), .val (.int fr), .unset, .val (.int b0)] []))
          refine own_by (fun t kk_ => XS.iconst X0.here hx rfl (hb hby at_168) kk_) ?_
          show OwnG p e below s _ _ _ (T0.setTop (mkF m 169 #[.val (.int k), .val (.int f), .val (.int x0), .val (.int x1), .val (.int x2), .val (.int N.toInt32), .val (.int b0), .val (.int b1), .val (.int b2), .val (.ref arr), .val (.int fr), .unset, .val (.int b0)] [(.int (0 : Int32))]))
          refine own_by (fun t kk_ => XS.istore X0.here hx rfl (hb hby at_169) rfl (l' := #[.val (.int k), .val (.int f), .val (.int x0), .val (.int x1), .val (.int x2), .val (.int N.toInt32), .val (.int b0), .val (.int b1), .val (.int b2), .val (.ref arr), .val (.int fr), .val (.int (0 : Int32)), .val (.int b0)]) rfl kk_) ?_
          show OwnG p e below s _ _ _ (T0.setTop (mkF m 171 #[.val (.int k), .val (.int f), .val (.int x0), .val (.int x1), .val (.int x2), .val (.int N.toInt32), .val (.int b0), .val (.int b1), .val (.int b2), .val (.ref arr), .val (.int fr), .val (.int (0 : Int32)), .val (.int b0)] []))
          refine own_by (fun t kk_ => XS.aload X0.here hx rfl (hb hby at_171) rfl rfl kk_) ?_
          show OwnG p e below s _ _ _ (T0.setTop (mkF m 173 #[.val (.int k), .val (.int f), .val (.int x0), .val (.int x1), .val (.int x2), .val (.int N.toInt32), .val (.int b0), .val (.int b1), .val (.int b2), .val (.ref arr), .val (.int fr), .val (.int (0 : Int32)), .val (.int b0)] [(.ref arr)]))
          refine own_by (fun t kk_ => XS.iload X0.here hx rfl (hb hby at_173) rfl  kk_) ?_
          show OwnG p e below s _ _ _ (T0.setTop (mkF m 175 #[.val (.int k), .val (.int f), .val (.int x0), .val (.int x1), .val (.int x2), .val (.int N.toInt32), .val (.int b0), .val (.int b1), .val (.int b2), .val (.ref arr), .val (.int fr), .val (.int (0 : Int32)), .val (.int b0)] [(.int fr), (.ref arr)]))
          obtain ⟨_, _, ⟨T19, L19, k19, n19⟩, -, X19, ⟨Lc19, hQ19, l19, y19, z19⟩, st19⟩ := Jvm.LawKit.callS X0 hx (y := (⟨"com/example/syncline/syncline/transport/Packets", "isView", "([BI)Z"⟩ : MethodName)) hown (mvT hZ (hw _ (List.mem_of_getElem? (i := 5) rfl))) (mvT hZ (hw _ (List.mem_of_getElem? (i := 6) rfl))) (mvT hZ (hw _ (List.mem_of_getElem? (i := 7) rfl))) (mvT hZ (hw _ (List.mem_of_getElem? (i := 8) rfl))) (by decide) (backOf (W := 0) (rm2 l Z a0 hw [] arr fr N (own_g b0 b1 b2) h0 n0 Z0 A0 h_fr0) hZ (hw _ (List.mem_of_getElem? (i := 8) rfl)) (hw _ (List.mem_of_getElem? (i := 7) rfl)) (by decide) (by decide)) (g := (mkF m 175 #[.val (.int k), .val (.int f), .val (.int x0), .val (.int x1), .val (.int x2), .val (.int N.toInt32), .val (.int b0), .val (.int b1), .val (.int b2), .val (.ref arr), .val (.int fr), .val (.int (0 : Int32)), .val (.int b0)] [(.int fr), (.ref arr)])) rfl (by rw [hml]; rfl) (argsL := [(.ref arr), (.int fr)]) (rest := []) (lenOf pd_1 rfl) rfl (by show 2 * 0 + _ ≤ _; exact Nat.le_of_eq rfl) (hb hby at_175) (fun _ _ => ⟨rfl, e0, (by decide : 0 + 1 + 0 ≤ _), (by decide : 0 + 3 + 0 ≤ _)⟩)
          dsimp only [Pt.U, Pt.locs, Pt.cells, Pt.slots] at X19 l19 y19 z19 st19 hQ19
          subst l19 y19 z19
          refine own_by (fun t kk_ => st19 _ kk_) ?_
          obtain ⟨rfl, N19q, hh19⟩ := hQ19
          have N19 := Fr.app N0 N19q
          show OwnG p e below s _ _ _ (T19.setTop (mkF m 178 #[.val (.int k), .val (.int f), .val (.int x0), .val (.int x1), .val (.int x2), .val (.int N.toInt32), .val (.int b0), .val (.int b1), .val (.int b2), .val (.ref arr), .val (.int fr), .val (.int (0 : Int32)), .val (.int b0)] [(.int (own_r fr N (own_g b0 b1 b2)))]))
          refine own_by (fun t kk_ => XS.iload X19.here hx rfl (hb hby at_178) rfl  kk_) ?_
          show OwnG p e below s _ _ _ (T19.setTop (mkF m 180 #[.val (.int k), .val (.int f), .val (.int x0), .val (.int x1), .val (.int x2), .val (.int N.toInt32), .val (.int b0), .val (.int b1), .val (.int b2), .val (.ref arr), .val (.int fr), .val (.int (0 : Int32)), .val (.int b0)] [(.int (0 : Int32)), (.int (own_r fr N (own_g b0 b1 b2)))]))
          refine own_by (fun t kk_ => XS.icmpNo X19.here hx rfl (hb hby at_180) rfl (teq (own_rC (hat.1 hb135_16) hb161_17)).2 kk_) ?_
          show OwnG p e below s _ _ _ (T19.setTop (mkF m 183 #[.val (.int k), .val (.int f), .val (.int x0), .val (.int x1), .val (.int x2), .val (.int N.toInt32), .val (.int b0), .val (.int b1), .val (.int b2), .val (.ref arr), .val (.int fr), .val (.int (0 : Int32)), .val (.int b0)] []))
          refine own_by (fun t kk_ => XS.iconst X19.here hx rfl (hb hby at_183) kk_) ?_
          show OwnG p e below s _ _ _ (T19.setTop (mkF m 184 #[.val (.int k), .val (.int f), .val (.int x0), .val (.int x1), .val (.int x2), .val (.int N.toInt32), .val (.int b0), .val (.int b1), .val (.int b2), .val (.ref arr), .val (.int fr), .val (.int (0 : Int32)), .val (.int b0)] [(.int (1 : Int32))]))
          refine own_by (fun t kk_ => XS.goto X19.here hx rfl (pc0 := 184) (pc' := 188) rfl (hb hby at_184) (by decide) (by decide) kk_) ?_
          show OwnG p e below s _ _ _ (T19.setTop (mkF m 188 #[.val (.int k), .val (.int f), .val (.int x0), .val (.int x1), .val (.int x2), .val (.int N.toInt32), .val (.int b0), .val (.int b1), .val (.int b2), .val (.ref arr), .val (.int fr), .val (.int (0 : Int32)), .val (.int b0)] [(.int (1 : Int32))]))
          exact own_outN X19 hx hret (by simp) hlk (hb hby at_188) rfl (⟨rfl, N19⟩) (by decide) (by decide)
      · refine own_by (fun t kk_ => XS.ifYes X0.here hx rfl (pc0 := 135) (pc' := 143) rfl (hb hby at_135) rfl ((if0 _ _).trans (feq hb135_16).2) (by decide) (by decide) kk_) ?_
        show OwnG p e below s _ _ _ (T0.setTop (mkF m 143 #[.val (.int k), .val (.int f), .val (.int x0), .val (.int x1), .val (.int x2), .val (.int N.toInt32), .val (.int b0), .val (.int b1), .val (.int b2), .val (.ref arr), .val (.int fr), .unset, .unset] []))
        refine own_by (fun t kk_ => XS.iload X0.here hx rfl (hb hby at_143) rfl  kk_) ?_
        show OwnG p e below s _ _ _ (T0.setTop (mkF m 145 #[.val (.int k), .val (.int f), .val (.int x0), .val (.int x1), .val (.int x2), .val (.int N.toInt32), .val (.int b0), .val (.int b1), .val (.int b2), .val (.ref arr), .val (.int fr), .unset, .unset] [(.int fr)]))
        refine own_by (fun t kk_ => XS.iconst X0.here hx rfl (hb hby at_145) kk_) ?_
        show OwnG p e below s _ _ _ (T0.setTop (mkF m 146 #[.val (.int k), .val (.int f), .val (.int x0), .val (.int x1), .val (.int x2), .val (.int N.toInt32), .val (.int b0), .val (.int b1), .val (.int b2), .val (.ref arr), .val (.int fr), .unset, .unset] [(.int (1 : Int32)), (.int fr)]))
        by_cases hb146_20 : fr = (1 : Int32)
        · refine own_by (fun t kk_ => XS.icmpNo X0.here hx rfl (hb hby at_146) rfl (teq hb146_20).2 kk_) ?_
          show OwnG p e below s _ _ _ (T0.setTop (mkF m 149 #[.val (.int k), .val (.int f), .val (.int x0), .val (.int x1), .val (.int x2), .val (.int N.toInt32), .val (.int b0), .val (.int b1), .val (.int b2), .val (.ref arr), .val (.int fr), .unset, .unset] []))
          refine own_by (fun t kk_ => XS.iload X0.here hx rfl (hb hby at_149) rfl  kk_) ?_
          show OwnG p e below s _ _ _ (T0.setTop (mkF m 151 #[.val (.int k), .val (.int f), .val (.int x0), .val (.int x1), .val (.int x2), .val (.int N.toInt32), .val (.int b0), .val (.int b1), .val (.int b2), .val (.ref arr), .val (.int fr), .unset, .unset] [(.int b1)]))
          refine own_by (fun t kk_ => XS.goto X0.here hx rfl (pc0 := 151) (pc' := 156) rfl (hb hby at_151) (by decide) (by decide) kk_) ?_
          show OwnG p e below s _ _ _ (T0.setTop (mkF m 156 #[.val (.int k), .val (.int f), .val (.int x0), .val (.int x1), .val (.int x2), .val (.int N.toInt32), .val (.int b0), .val (.int b1), .val (.int b2), .val (.ref arr), .val (.int fr), .unset, .unset] [(.int b1)]))
          refine own_by (fun t kk_ => XS.istore X0.here hx rfl (hb hby at_156) rfl (l' := #[.val (.int k), .val (.int f), .val (.int x0), .val (.int x1), .val (.int x2), .val (.int N.toInt32), .val (.int b0), .val (.int b1), .val (.int b2), .val (.ref arr), .val (.int fr), .unset, .val (.int b1)]) rfl kk_) ?_
          show OwnG p e below s _ _ _ (T0.setTop (mkF m 158 #[.val (.int k), .val (.int f), .val (.int x0), .val (.int x1), .val (.int x2), .val (.int N.toInt32), .val (.int b0), .val (.int b1), .val (.int b2), .val (.ref arr), .val (.int fr), .unset, .val (.int b1)] []))
          refine own_by (fun t kk_ => XS.iload X0.here hx rfl (hb hby at_158) rfl  kk_) ?_
          show OwnG p e below s _ _ _ (T0.setTop (mkF m 160 #[.val (.int k), .val (.int f), .val (.int x0), .val (.int x1), .val (.int x2), .val (.int N.toInt32), .val (.int b0), .val (.int b1), .val (.int b2), .val (.ref arr), .val (.int fr), .unset, .val (.int b1)] [(.int b1)]))
          refine own_by (fun t kk_ => XS.iconst X0.here hx rfl (hb hby at_160) kk_) ?_
          show OwnG p e below s _ _ _ (T0.setTop (mkF m 161 #[.val (.int k), .val (.int f), .val (.int x0), .val (.int x1), .val (.int x2), .val (.int N.toInt32), .val (.int b0), .val (.int b1), .val (.int b2), .val (.ref arr), .val (.int fr), .unset, .val (.int b1)] [(.int (2 : Int32)), (.int b1)]))
          by_cases hb161_21 : b1 = (2 : Int32)
          · refine own_by (fun t kk_ => XS.icmpNo X0.here hx rfl (hb hby at_161) rfl (teq hb161_21).2 kk_) ?_
            show OwnG p e below s _ _ _ (T0.setTop (mkF m 164 #[.val (.int k), .val (.int f), .val (.int x0), .val (.int x1), .val (.int x2), .val (.int N.toInt32), .val (.int b0), .val (.int b1), .val (.int b2), .val (.ref arr), .val (.int fr), .unset, .val (.int b1)] []))
            refine own_by (fun t kk_ => XS.iconst X0.here hx rfl (hb hby at_164) kk_) ?_
            show OwnG p e below s _ _ _ (T0.setTop (mkF m 165 #[.val (.int k), .val (.int f), .val (.int x0), .val (.int x1), .val (.int x2), .val (.int N.toInt32), .val (.int b0), .val (.int b1), .val (.int b2), .val (.ref arr), .val (.int fr), .unset, .val (.int b1)] [(.int (1 : Int32))]))
            refine own_by (fun t kk_ => XS.goto X0.here hx rfl (pc0 := 165) (pc' := 169) rfl (hb hby at_165) (by decide) (by decide) kk_) ?_
            show OwnG p e below s _ _ _ (T0.setTop (mkF m 169 #[.val (.int k), .val (.int f), .val (.int x0), .val (.int x1), .val (.int x2), .val (.int N.toInt32), .val (.int b0), .val (.int b1), .val (.int b2), .val (.ref arr), .val (.int fr), .unset, .val (.int b1)] [(.int (1 : Int32))]))
            refine own_by (fun t kk_ => XS.istore X0.here hx rfl (hb hby at_169) rfl (l' := #[.val (.int k), .val (.int f), .val (.int x0), .val (.int x1), .val (.int x2), .val (.int N.toInt32), .val (.int b0), .val (.int b1), .val (.int b2), .val (.ref arr), .val (.int fr), .val (.int (1 : Int32)), .val (.int b1)]) rfl kk_) ?_
            show OwnG p e below s _ _ _ (T0.setTop (mkF m 171 #[.val (.int k), .val (.int f), .val (.int x0), .val (.int x1), .val (.int x2), .val (.int N.toInt32), .val (.int b0), .val (.int b1), .val (.int b2), .val (.ref arr), .val (.int fr), .val (.int (1 : Int32)), .val (.int b1)] []))
            refine own_by (fun t kk_ => XS.aload X0.here hx rfl (hb hby at_171) rfl rfl kk_) ?_
            show OwnG p e below s _ _ _ (T0.setTop (mkF m 173 #[.val (.int k), .val (.int f), .val (.int x0), .val (.int x1), .val (.int x2), .val (.int N.toInt32), .val (.int b0), .val (.int b1), .val (.int b2), .val (.ref arr), .val (.int fr), .val (.int (1 : Int32)), .val (.int b1)] [(.ref arr)]))
            refine own_by (fun t kk_ => XS.iload X0.here hx rfl (hb hby at_173) rfl  kk_) ?_
            show OwnG p e below s _ _ _ (T0.setTop (mkF m 175 #[.val (.int k), .val (.int f), .val (.int x0), .val (.int x1), .val (.int x2), .val (.int N.toInt32), .val (.int b0), .val (.int b1), .val (.int b2), .val (.ref arr), .val (.int fr), .val (.int (1 : Int32)), .val (.int b1)] [(.int fr), (.ref arr)]))
            obtain ⟨_, _, ⟨T22, L22, k22, n22⟩, -, X22, ⟨Lc22, hQ22, l22, y22, z22⟩, st22⟩ := Jvm.LawKit.callS X0 hx (y := (⟨"com/example/syncline/syncline/transport/Packets", "isView", "([BI)Z"⟩ : MethodName)) hown (mvT hZ (hw _ (List.mem_of_getElem? (i := 5) rfl))) (mvT hZ (hw _ (List.mem_of_getElem? (i := 6) rfl))) (mvT hZ (hw _ (List.mem_of_getElem? (i := 7) rfl))) (mvT hZ (hw _ (List.mem_of_getElem? (i := 8) rfl))) (by decide) (backOf (W := 0) (rm2 l Z a0 hw [] arr fr N (own_g b0 b1 b2) h0 n0 Z0 A0 h_fr0) hZ (hw _ (List.mem_of_getElem? (i := 8) rfl)) (hw _ (List.mem_of_getElem? (i := 7) rfl)) (by decide) (by decide)) (g := (mkF m 175 #[.val (.int k), .val (.int f), .val (.int x0), .val (.int x1), .val (.int x2), .val (.int N.toInt32), .val (.int b0), .val (.int b1), .val (.int b2), .val (.ref arr), .val (.int fr), .val (.int (1 : Int32)), .val (.int b1)] [(.int fr), (.ref arr)])) rfl (by rw [hml]; rfl) (argsL := [(.ref arr), (.int fr)]) (rest := []) (lenOf pd_1 rfl) rfl (by show 2 * 0 + _ ≤ _; exact Nat.le_of_eq rfl) (hb hby at_175) (fun _ _ => ⟨rfl, e0, (by decide : 0 + 1 + 0 ≤ _), (by decide : 0 + 3 + 0 ≤ _)⟩)
            dsimp only [Pt.U, Pt.locs, Pt.cells, Pt.slots] at X22 l22 y22 z22 st22 hQ22
            subst l22 y22 z22
            refine own_by (fun t kk_ => st22 _ kk_) ?_
            obtain ⟨rfl, N22q, hh22⟩ := hQ22
            have N22 := Fr.app N0 N22q
            show OwnG p e below s _ _ _ (T22.setTop (mkF m 178 #[.val (.int k), .val (.int f), .val (.int x0), .val (.int x1), .val (.int x2), .val (.int N.toInt32), .val (.int b0), .val (.int b1), .val (.int b2), .val (.ref arr), .val (.int fr), .val (.int (1 : Int32)), .val (.int b1)] [(.int (own_r fr N (own_g b0 b1 b2)))]))
            refine own_by (fun t kk_ => XS.iload X22.here hx rfl (hb hby at_178) rfl  kk_) ?_
            show OwnG p e below s _ _ _ (T22.setTop (mkF m 180 #[.val (.int k), .val (.int f), .val (.int x0), .val (.int x1), .val (.int x2), .val (.int N.toInt32), .val (.int b0), .val (.int b1), .val (.int b2), .val (.ref arr), .val (.int fr), .val (.int (1 : Int32)), .val (.int b1)] [(.int (1 : Int32)), (.int (own_r fr N (own_g b0 b1 b2)))]))
            refine own_by (fun t kk_ => XS.icmpNo X22.here hx rfl (hb hby at_180) rfl (teq (own_rB hb124_15 (by omega) h_fr0 (hat.2.1 hb135_16 hb146_20) hb161_21)).2 kk_) ?_
            show OwnG p e below s _ _ _ (T22.setTop (mkF m 183 #[.val (.int k), .val (.int f), .val (.int x0), .val (.int x1), .val (.int x2), .val (.int N.toInt32), .val (.int b0), .val (.int b1), .val (.int b2), .val (.ref arr), .val (.int fr), .val (.int (1 : Int32)), .val (.int b1)] []))
            refine own_by (fun t kk_ => XS.iconst X22.here hx rfl (hb hby at_183) kk_) ?_
            show OwnG p e below s _ _ _ (T22.setTop (mkF m 184 #[.val (.int k), .val (.int f), .val (.int x0), .val (.int x1), .val (.int x2), .val (.int N.toInt32), .val (.int b0), .val (.int b1), .val (.int b2), .val (.ref arr), .val (.int fr), .val (.int (1 : Int32)), .val (.int b1)] [(.int (1 : Int32))]))
            refine own_by (fun t kk_ => XS.goto X22.here hx rfl (pc0 := 184) (pc' := 188) rfl (hb hby at_184) (by decide) (by decide) kk_) ?_
            show OwnG p e below s _ _ _ (T22.setTop (mkF m 188 #[.val (.int k), .val (.int f), .val (.int x0), .val (.int x1), .val (.int x2), .val (.int N.toInt32), .val (.int b0), .val (.int b1), .val (.int b2), .val (.ref arr), .val (.int fr), .val (.int (1 : Int32)), .val (.int b1)] [(.int (1 : Int32))]))
            exact own_outN X22 hx hret (by simp) hlk (hb hby at_188) rfl (⟨rfl, N22⟩) (by decide) (by decide)
          · refine own_by (fun t kk_ => XS.icmpYes X0.here hx rfl (pc0 := 161) (pc' := 168) rfl (hb hby at_161) rfl (feq hb161_21).2 (by decide) (by decide) kk_) ?_
            show OwnG p e below s _ _ _ (T0.setTop (mkF m 168 #[.val (.int k), .val (.int f), .val (.int x0), .val (.int x1), .val (.int x2), .val (.int N.toInt32), .val (.int b0), .val (.int b1), .val (.int b2), .val (.ref arr), .val (.int fr), .unset, .val (.int b1)] []))
            refine own_by (fun t kk_ => XS.iconst X0.here hx rfl (hb hby at_168) kk_) ?_
            show OwnG p e below s _ _ _ (T0.setTop (mkF m 169 #[.val (.int k), .val (.int f), .val (.int x0), .val (.int x1), .val (.int x2), .val (.int N.toInt32), .val (.int b0), .val (.int b1), .val (.int b2), .val (.ref arr), .val (.int fr), .unset, .val (.int b1)] [(.int (0 : Int32))]))
            refine own_by (fun t kk_ => XS.istore X0.here hx rfl (hb hby at_169) rfl (l' := #[.val (.int k), .val (.int f), .val (.int x0), .val (.int x1), .val (.int x2), .val (.int N.toInt32), .val (.int b0), .val (.int b1), .val (.int b2), .val (.ref arr), .val (.int fr), .val (.int (0 : Int32)), .val (.int b1)]) rfl kk_) ?_
            show OwnG p e below s _ _ _ (T0.setTop (mkF m 171 #[.val (.int k), .val (.int f), .val (.int x0), .val (.int x1), .val (.int x2), .val (.int N.toInt32), .val (.int b0), .val (.int b1), .val (.int b2), .val (.ref arr), .val (.int fr), .val (.int (0 : Int32)), .val (.int b1)] []))
            refine own_by (fun t kk_ => XS.aload X0.here hx rfl (hb hby at_171) rfl rfl kk_) ?_
            show OwnG p e below s _ _ _ (T0.setTop (mkF m 173 #[.val (.int k), .val (.int f), .val (.int x0), .val (.int x1), .val (.int x2), .val (.int N.toInt32), .val (.int b0), .val (.int b1), .val (.int b2), .val (.ref arr), .val (.int fr), .val (.int (0 : Int32)), .val (.int b1)] [(.ref arr)]))
            refine own_by (fun t kk_ => XS.iload X0.here hx rfl (hb hby at_173) rfl  kk_) ?_
            show OwnG p e below s _ _ _ (T0.setTop (mkF m 175 #[.val (.int k), .val (.int f), .val (.int x0), .val (.int x1), .val (.int x2), .val (.int N.toInt32), .val (.int b0), .val (.int b1), .val (.int b2), .val (.ref arr), .val (.int fr), .val (.int (0 : Int32)), .val (.int b1)] [(.int fr), (.ref arr)]))
            obtain ⟨_, _, ⟨T23, L23, k23, n23⟩, -, X23, ⟨Lc23, hQ23, l23, y23, z23⟩, st23⟩ := Jvm.LawKit.callS X0 hx (y := (⟨"com/example/syncline/syncline/transport/Packets", "isView", "([BI)Z"⟩ : MethodName)) hown (mvT hZ (hw _ (List.mem_of_getElem? (i := 5) rfl))) (mvT hZ (hw _ (List.mem_of_getElem? (i := 6) rfl))) (mvT hZ (hw _ (List.mem_of_getElem? (i := 7) rfl))) (mvT hZ (hw _ (List.mem_of_getElem? (i := 8) rfl))) (by decide) (backOf (W := 0) (rm2 l Z a0 hw [] arr fr N (own_g b0 b1 b2) h0 n0 Z0 A0 h_fr0) hZ (hw _ (List.mem_of_getElem? (i := 8) rfl)) (hw _ (List.mem_of_getElem? (i := 7) rfl)) (by decide) (by decide)) (g := (mkF m 175 #[.val (.int k), .val (.int f), .val (.int x0), .val (.int x1), .val (.int x2), .val (.int N.toInt32), .val (.int b0), .val (.int b1), .val (.int b2), .val (.ref arr), .val (.int fr), .val (.int (0 : Int32)), .val (.int b1)] [(.int fr), (.ref arr)])) rfl (by rw [hml]; rfl) (argsL := [(.ref arr), (.int fr)]) (rest := []) (lenOf pd_1 rfl) rfl (by show 2 * 0 + _ ≤ _; exact Nat.le_of_eq rfl) (hb hby at_175) (fun _ _ => ⟨rfl, e0, (by decide : 0 + 1 + 0 ≤ _), (by decide : 0 + 3 + 0 ≤ _)⟩)
            dsimp only [Pt.U, Pt.locs, Pt.cells, Pt.slots] at X23 l23 y23 z23 st23 hQ23
            subst l23 y23 z23
            refine own_by (fun t kk_ => st23 _ kk_) ?_
            obtain ⟨rfl, N23q, hh23⟩ := hQ23
            have N23 := Fr.app N0 N23q
            show OwnG p e below s _ _ _ (T23.setTop (mkF m 178 #[.val (.int k), .val (.int f), .val (.int x0), .val (.int x1), .val (.int x2), .val (.int N.toInt32), .val (.int b0), .val (.int b1), .val (.int b2), .val (.ref arr), .val (.int fr), .val (.int (0 : Int32)), .val (.int b1)] [(.int (own_r fr N (own_g b0 b1 b2)))]))
            refine own_by (fun t kk_ => XS.iload X23.here hx rfl (hb hby at_178) rfl  kk_) ?_
            show OwnG p e below s _ _ _ (T23.setTop (mkF m 180 #[.val (.int k), .val (.int f), .val (.int x0), .val (.int x1), .val (.int x2), .val (.int N.toInt32), .val (.int b0), .val (.int b1), .val (.int b2), .val (.ref arr), .val (.int fr), .val (.int (0 : Int32)), .val (.int b1)] [(.int (0 : Int32)), (.int (own_r fr N (own_g b0 b1 b2)))]))
            refine own_by (fun t kk_ => XS.icmpNo X23.here hx rfl (hb hby at_180) rfl (teq (own_rC (hat.2.1 hb135_16 hb146_20) hb161_21)).2 kk_) ?_
            show OwnG p e below s _ _ _ (T23.setTop (mkF m 183 #[.val (.int k), .val (.int f), .val (.int x0), .val (.int x1), .val (.int x2), .val (.int N.toInt32), .val (.int b0), .val (.int b1), .val (.int b2), .val (.ref arr), .val (.int fr), .val (.int (0 : Int32)), .val (.int b1)] []))
            refine own_by (fun t kk_ => XS.iconst X23.here hx rfl (hb hby at_183) kk_) ?_
            show OwnG p e below s _ _ _ (T23.setTop (mkF m 184 #[.val (.int k), .val (.int f), .val (.int x0), .val (.int x1), .val (.int x2), .val (.int N.toInt32), .val (.int b0), .val (.int b1), .val (.int b2), .val (.ref arr), .val (.int fr), .val (.int (0 : Int32)), .val (.int b1)] [(.int (1 : Int32))]))
            refine own_by (fun t kk_ => XS.goto X23.here hx rfl (pc0 := 184) (pc' := 188) rfl (hb hby at_184) (by decide) (by decide) kk_) ?_
            show OwnG p e below s _ _ _ (T23.setTop (mkF m 188 #[.val (.int k), .val (.int f), .val (.int x0), .val (.int x1), .val (.int x2), .val (.int N.toInt32), .val (.int b0), .val (.int b1), .val (.int b2), .val (.ref arr), .val (.int fr), .val (.int (0 : Int32)), .val (.int b1)] [(.int (1 : Int32))]))
            exact own_outN X23 hx hret (by simp) hlk (hb hby at_188) rfl (⟨rfl, N23⟩) (by decide) (by decide)
        · refine own_by (fun t kk_ => XS.icmpYes X0.here hx rfl (pc0 := 146) (pc' := 154) rfl (hb hby at_146) rfl (feq hb146_20).2 (by decide) (by decide) kk_) ?_
          show OwnG p e below s _ _ _ (T0.setTop (mkF m 154 #[.val (.int k), .val (.int f), .val (.int x0), .val (.int x1), .val (.int x2), .val (.int N.toInt32), .val (.int b0), .val (.int b1), .val (.int b2), .val (.ref arr), .val (.int fr), .unset, .unset] []))
          refine own_by (fun t kk_ => XS.iload X0.here hx rfl (hb hby at_154) rfl  kk_) ?_
          show OwnG p e below s _ _ _ (T0.setTop (mkF m 156 #[.val (.int k), .val (.int f), .val (.int x0), .val (.int x1), .val (.int x2), .val (.int N.toInt32), .val (.int b0), .val (.int b1), .val (.int b2), .val (.ref arr), .val (.int fr), .unset, .unset] [(.int b2)]))
          refine own_by (fun t kk_ => XS.istore X0.here hx rfl (hb hby at_156) rfl (l' := #[.val (.int k), .val (.int f), .val (.int x0), .val (.int x1), .val (.int x2), .val (.int N.toInt32), .val (.int b0), .val (.int b1), .val (.int b2), .val (.ref arr), .val (.int fr), .unset, .val (.int b2)]) rfl kk_) ?_
          show OwnG p e below s _ _ _ (T0.setTop (mkF m 158 #[.val (.int k), .val (.int f), .val (.int x0), .val (.int x1), .val (.int x2), .val (.int N.toInt32), .val (.int b0), .val (.int b1), .val (.int b2), .val (.ref arr), .val (.int fr), .unset, .val (.int b2)] []))
          refine own_by (fun t kk_ => XS.iload X0.here hx rfl (hb hby at_158) rfl  kk_) ?_
          show OwnG p e below s _ _ _ (T0.setTop (mkF m 160 #[.val (.int k), .val (.int f), .val (.int x0), .val (.int x1), .val (.int x2), .val (.int N.toInt32), .val (.int b0), .val (.int b1), .val (.int b2), .val (.ref arr), .val (.int fr), .unset, .val (.int b2)] [(.int b2)]))
          refine own_by (fun t kk_ => XS.iconst X0.here hx rfl (hb hby at_160) kk_) ?_
          show OwnG p e below s _ _ _ (T0.setTop (mkF m 161 #[.val (.int k), .val (.int f), .val (.int x0), .val (.int x1), .val (.int x2), .val (.int N.toInt32), .val (.int b0), .val (.int b1), .val (.int b2), .val (.ref arr), .val (.int fr), .unset, .val (.int b2)] [(.int (2 : Int32)), (.int b2)]))
          by_cases hb161_24 : b2 = (2 : Int32)
          · refine own_by (fun t kk_ => XS.icmpNo X0.here hx rfl (hb hby at_161) rfl (teq hb161_24).2 kk_) ?_
            show OwnG p e below s _ _ _ (T0.setTop (mkF m 164 #[.val (.int k), .val (.int f), .val (.int x0), .val (.int x1), .val (.int x2), .val (.int N.toInt32), .val (.int b0), .val (.int b1), .val (.int b2), .val (.ref arr), .val (.int fr), .unset, .val (.int b2)] []))
            refine own_by (fun t kk_ => XS.iconst X0.here hx rfl (hb hby at_164) kk_) ?_
            show OwnG p e below s _ _ _ (T0.setTop (mkF m 165 #[.val (.int k), .val (.int f), .val (.int x0), .val (.int x1), .val (.int x2), .val (.int N.toInt32), .val (.int b0), .val (.int b1), .val (.int b2), .val (.ref arr), .val (.int fr), .unset, .val (.int b2)] [(.int (1 : Int32))]))
            refine own_by (fun t kk_ => XS.goto X0.here hx rfl (pc0 := 165) (pc' := 169) rfl (hb hby at_165) (by decide) (by decide) kk_) ?_
            show OwnG p e below s _ _ _ (T0.setTop (mkF m 169 #[.val (.int k), .val (.int f), .val (.int x0), .val (.int x1), .val (.int x2), .val (.int N.toInt32), .val (.int b0), .val (.int b1), .val (.int b2), .val (.ref arr), .val (.int fr), .unset, .val (.int b2)] [(.int (1 : Int32))]))
            refine own_by (fun t kk_ => XS.istore X0.here hx rfl (hb hby at_169) rfl (l' := #[.val (.int k), .val (.int f), .val (.int x0), .val (.int x1), .val (.int x2), .val (.int N.toInt32), .val (.int b0), .val (.int b1), .val (.int b2), .val (.ref arr), .val (.int fr), .val (.int (1 : Int32)), .val (.int b2)]) rfl kk_) ?_
            show OwnG p e below s _ _ _ (T0.setTop (mkF m 171 #[.val (.int k), .val (.int f), .val (.int x0), .val (.int x1), .val (.int x2), .val (.int N.toInt32), .val (.int b0), .val (.int b1), .val (.int b2), .val (.ref arr), .val (.int fr), .val (.int (1 : Int32)), .val (.int b2)] []))
            refine own_by (fun t kk_ => XS.aload X0.here hx rfl (hb hby at_171) rfl rfl kk_) ?_
            show OwnG p e below s _ _ _ (T0.setTop (mkF m 173 #[.val (.int k), .val (.int f), .val (.int x0), .val (.int x1), .val (.int x2), .val (.int N.toInt32), .val (.int b0), .val (.int b1), .val (.int b2), .val (.ref arr), .val (.int fr), .val (.int (1 : Int32)), .val (.int b2)] [(.ref arr)]))
            refine own_by (fun t kk_ => XS.iload X0.here hx rfl (hb hby at_173) rfl  kk_) ?_
            show OwnG p e below s _ _ _ (T0.setTop (mkF m 175 #[.val (.int k), .val (.int f), .val (.int x0), .val (.int x1), .val (.int x2), .val (.int N.toInt32), .val (.int b0), .val (.int b1), .val (.int b2), .val (.ref arr), .val (.int fr), .val (.int (1 : Int32)), .val (.int b2)] [(.int fr), (.ref arr)]))
            obtain ⟨_, _, ⟨T25, L25, k25, n25⟩, -, X25, ⟨Lc25, hQ25, l25, y25, z25⟩, st25⟩ := Jvm.LawKit.callS X0 hx (y := (⟨"com/example/syncline/syncline/transport/Packets", "isView", "([BI)Z"⟩ : MethodName)) hown (mvT hZ (hw _ (List.mem_of_getElem? (i := 5) rfl))) (mvT hZ (hw _ (List.mem_of_getElem? (i := 6) rfl))) (mvT hZ (hw _ (List.mem_of_getElem? (i := 7) rfl))) (mvT hZ (hw _ (List.mem_of_getElem? (i := 8) rfl))) (by decide) (backOf (W := 0) (rm2 l Z a0 hw [] arr fr N (own_g b0 b1 b2) h0 n0 Z0 A0 h_fr0) hZ (hw _ (List.mem_of_getElem? (i := 8) rfl)) (hw _ (List.mem_of_getElem? (i := 7) rfl)) (by decide) (by decide)) (g := (mkF m 175 #[.val (.int k), .val (.int f), .val (.int x0), .val (.int x1), .val (.int x2), .val (.int N.toInt32), .val (.int b0), .val (.int b1), .val (.int b2), .val (.ref arr), .val (.int fr), .val (.int (1 : Int32)), .val (.int b2)] [(.int fr), (.ref arr)])) rfl (by rw [hml]; rfl) (argsL := [(.ref arr), (.int fr)]) (rest := []) (lenOf pd_1 rfl) rfl (by show 2 * 0 + _ ≤ _; exact Nat.le_of_eq rfl) (hb hby at_175) (fun _ _ => ⟨rfl, e0, (by decide : 0 + 1 + 0 ≤ _), (by decide : 0 + 3 + 0 ≤ _)⟩)
            dsimp only [Pt.U, Pt.locs, Pt.cells, Pt.slots] at X25 l25 y25 z25 st25 hQ25
            subst l25 y25 z25
            refine own_by (fun t kk_ => st25 _ kk_) ?_
            obtain ⟨rfl, N25q, hh25⟩ := hQ25
            have N25 := Fr.app N0 N25q
            show OwnG p e below s _ _ _ (T25.setTop (mkF m 178 #[.val (.int k), .val (.int f), .val (.int x0), .val (.int x1), .val (.int x2), .val (.int N.toInt32), .val (.int b0), .val (.int b1), .val (.int b2), .val (.ref arr), .val (.int fr), .val (.int (1 : Int32)), .val (.int b2)] [(.int (own_r fr N (own_g b0 b1 b2)))]))
            refine own_by (fun t kk_ => XS.iload X25.here hx rfl (hb hby at_178) rfl  kk_) ?_
            show OwnG p e below s _ _ _ (T25.setTop (mkF m 180 #[.val (.int k), .val (.int f), .val (.int x0), .val (.int x1), .val (.int x2), .val (.int N.toInt32), .val (.int b0), .val (.int b1), .val (.int b2), .val (.ref arr), .val (.int fr), .val (.int (1 : Int32)), .val (.int b2)] [(.int (1 : Int32)), (.int (own_r fr N (own_g b0 b1 b2)))]))
            refine own_by (fun t kk_ => XS.icmpNo X25.here hx rfl (hb hby at_180) rfl (teq (own_rB hb124_15 (by omega) h_fr0 (hat.2.2 hb135_16 hb146_20) hb161_24)).2 kk_) ?_
            show OwnG p e below s _ _ _ (T25.setTop (mkF m 183 #[.val (.int k), .val (.int f), .val (.int x0), .val (.int x1), .val (.int x2), .val (.int N.toInt32), .val (.int b0), .val (.int b1), .val (.int b2), .val (.ref arr), .val (.int fr), .val (.int (1 : Int32)), .val (.int b2)] []))
            refine own_by (fun t kk_ => XS.iconst X25.here hx rfl (hb hby at_183) kk_) ?_
            show OwnG p e below s _ _ _ (T25.setTop (mkF m 184 #[.val (.int k), .val (.int f), .val (.int x0), .val (.int x1), .val (.int x2), .val (.int N.toInt32), .val (.int b0), .val (.int b1), .val (.int b2), .val (.ref arr), .val (.int fr), .val (.int (1 : Int32)), .val (.int b2)] [(.int (1 : Int32))]))
            refine own_by (fun t kk_ => XS.goto X25.here hx rfl (pc0 := 184) (pc' := 188) rfl (hb hby at_184) (by decide) (by decide) kk_) ?_
            show OwnG p e below s _ _ _ (T25.setTop (mkF m 188 #[.val (.int k), .val (.int f), .val (.int x0), .val (.int x1), .val (.int x2), .val (.int N.toInt32), .val (.int b0), .val (.int b1), .val (.int b2), .val (.ref arr), .val (.int fr), .val (.int (1 : Int32)), .val (.int b2)] [(.int (1 : Int32))]))
            exact own_outN X25 hx hret (by simp) hlk (hb hby at_188) rfl (⟨rfl, N25⟩) (by decide) (by decide)
          · refine own_by (fun t kk_ => XS.icmpYes X0.here hx rfl (pc0 := 161) (pc' := 168) rfl (hb hby at_161) rfl (feq hb161_24).2 (by decide) (by decide) kk_) ?_
            show OwnG p e below s _ _ _ (T0.setTop (mkF m 168 #[.val (.int k), .val (.int f), .val (.int x0), .val (.int x1), .val (.int x2), .val (.int N.toInt32), .val (.int b0), .val (.int b1), .val (.int b2), .val (.ref arr), .val (.int fr), .unset, .val (.int b2)] []))
            refine own_by (fun t kk_ => XS.iconst X0.here hx rfl (hb hby at_168) kk_) ?_
            show OwnG p e below s _ _ _ (T0.setTop (mkF m 169 #[.val (.int k), .val (.int f), .val (.int x0), .val (.int x1), .val (.int x2), .val (.int N.toInt32), .val (.int b0), .val (.int b1), .val (.int b2), .val (.ref arr), .val (.int fr), .unset, .val (.int b2)] [(.int (0 : Int32))]))
            refine own_by (fun t kk_ => XS.istore X0.here hx rfl (hb hby at_169) rfl (l' := #[.val (.int k), .val (.int f), .val (.int x0), .val (.int x1), .val (.int x2), .val (.int N.toInt32), .val (.int b0), .val (.int b1), .val (.int b2), .val (.ref arr), .val (.int fr), .val (.int (0 : Int32)), .val (.int b2)]) rfl kk_) ?_
            show OwnG p e below s _ _ _ (T0.setTop (mkF m 171 #[.val (.int k), .val (.int f), .val (.int x0), .val (.int x1), .val (.int x2), .val (.int N.toInt32), .val (.int b0), .val (.int b1), .val (.int b2), .val (.ref arr), .val (.int fr), .val (.int (0 : Int32)), .val (.int b2)] []))
            refine own_by (fun t kk_ => XS.aload X0.here hx rfl (hb hby at_171) rfl rfl kk_) ?_
            show OwnG p e below s _ _ _ (T0.setTop (mkF m 173 #[.val (.int k), .val (.int f), .val (.int x0), .val (.int x1), .val (.int x2), .val (.int N.toInt32), .val (.int b0), .val (.int b1), .val (.int b2), .val (.ref arr), .val (.int fr), .val (.int (0 : Int32)), .val (.int b2)] [(.ref arr)]))
            refine own_by (fun t kk_ => XS.iload X0.here hx rfl (hb hby at_173) rfl  kk_) ?_
            show OwnG p e below s _ _ _ (T0.setTop (mkF m 175 #[.val (.int k), .val (.int f), .val (.int x0), .val (.int x1), .val (.int x2), .val (.int N.toInt32), .val (.int b0), .val (.int b1), .val (.int b2), .val (.ref arr), .val (.int fr), .val (.int (0 : Int32)), .val (.int b2)] [(.int fr), (.ref arr)]))
            obtain ⟨_, _, ⟨T26, L26, k26, n26⟩, -, X26, ⟨Lc26, hQ26, l26, y26, z26⟩, st26⟩ := Jvm.LawKit.callS X0 hx (y := (⟨"com/example/syncline/syncline/transport/Packets", "isView", "([BI)Z"⟩ : MethodName)) hown (mvT hZ (hw _ (List.mem_of_getElem? (i := 5) rfl))) (mvT hZ (hw _ (List.mem_of_getElem? (i := 6) rfl))) (mvT hZ (hw _ (List.mem_of_getElem? (i := 7) rfl))) (mvT hZ (hw _ (List.mem_of_getElem? (i := 8) rfl))) (by decide) (backOf (W := 0) (rm2 l Z a0 hw [] arr fr N (own_g b0 b1 b2) h0 n0 Z0 A0 h_fr0) hZ (hw _ (List.mem_of_getElem? (i := 8) rfl)) (hw _ (List.mem_of_getElem? (i := 7) rfl)) (by decide) (by decide)) (g := (mkF m 175 #[.val (.int k), .val (.int f), .val (.int x0), .val (.int x1), .val (.int x2), .val (.int N.toInt32), .val (.int b0), .val (.int b1), .val (.int b2), .val (.ref arr), .val (.int fr), .val (.int (0 : Int32)), .val (.int b2)] [(.int fr), (.ref arr)])) rfl (by rw [hml]; rfl) (argsL := [(.ref arr), (.int fr)]) (rest := []) (lenOf pd_1 rfl) rfl (by show 2 * 0 + _ ≤ _; exact Nat.le_of_eq rfl) (hb hby at_175) (fun _ _ => ⟨rfl, e0, (by decide : 0 + 1 + 0 ≤ _), (by decide : 0 + 3 + 0 ≤ _)⟩)
            dsimp only [Pt.U, Pt.locs, Pt.cells, Pt.slots] at X26 l26 y26 z26 st26 hQ26
            subst l26 y26 z26
            refine own_by (fun t kk_ => st26 _ kk_) ?_
            obtain ⟨rfl, N26q, hh26⟩ := hQ26
            have N26 := Fr.app N0 N26q
            show OwnG p e below s _ _ _ (T26.setTop (mkF m 178 #[.val (.int k), .val (.int f), .val (.int x0), .val (.int x1), .val (.int x2), .val (.int N.toInt32), .val (.int b0), .val (.int b1), .val (.int b2), .val (.ref arr), .val (.int fr), .val (.int (0 : Int32)), .val (.int b2)] [(.int (own_r fr N (own_g b0 b1 b2)))]))
            refine own_by (fun t kk_ => XS.iload X26.here hx rfl (hb hby at_178) rfl  kk_) ?_
            show OwnG p e below s _ _ _ (T26.setTop (mkF m 180 #[.val (.int k), .val (.int f), .val (.int x0), .val (.int x1), .val (.int x2), .val (.int N.toInt32), .val (.int b0), .val (.int b1), .val (.int b2), .val (.ref arr), .val (.int fr), .val (.int (0 : Int32)), .val (.int b2)] [(.int (0 : Int32)), (.int (own_r fr N (own_g b0 b1 b2)))]))
            refine own_by (fun t kk_ => XS.icmpNo X26.here hx rfl (hb hby at_180) rfl (teq (own_rC (hat.2.2 hb135_16 hb146_20) hb161_24)).2 kk_) ?_
            show OwnG p e below s _ _ _ (T26.setTop (mkF m 183 #[.val (.int k), .val (.int f), .val (.int x0), .val (.int x1), .val (.int x2), .val (.int N.toInt32), .val (.int b0), .val (.int b1), .val (.int b2), .val (.ref arr), .val (.int fr), .val (.int (0 : Int32)), .val (.int b2)] []))
            refine own_by (fun t kk_ => XS.iconst X26.here hx rfl (hb hby at_183) kk_) ?_
            show OwnG p e below s _ _ _ (T26.setTop (mkF m 184 #[.val (.int k), .val (.int f), .val (.int x0), .val (.int x1), .val (.int x2), .val (.int N.toInt32), .val (.int b0), .val (.int b1), .val (.int b2), .val (.ref arr), .val (.int fr), .val (.int (0 : Int32)), .val (.int b2)] [(.int (1 : Int32))]))
            refine own_by (fun t kk_ => XS.goto X26.here hx rfl (pc0 := 184) (pc' := 188) rfl (hb hby at_184) (by decide) (by decide) kk_) ?_
            show OwnG p e below s _ _ _ (T26.setTop (mkF m 188 #[.val (.int k), .val (.int f), .val (.int x0), .val (.int x1), .val (.int x2), .val (.int N.toInt32), .val (.int b0), .val (.int b1), .val (.int b2), .val (.ref arr), .val (.int fr), .val (.int (0 : Int32)), .val (.int b2)] [(.int (1 : Int32))]))
            exact own_outN X26 hx hret (by simp) hlk (hb hby at_188) rfl (⟨rfl, N26⟩) (by decide) (by decide)
    · refine own_by (fun t kk_ => XS.icmpNo X0.here hx rfl (hb hby at_124) rfl (flt hb124_15).1 kk_) ?_
      show OwnG p e below s _ _ _ (T0.setTop (mkF m 127 #[.val (.int k), .val (.int f), .val (.int x0), .val (.int x1), .val (.int x2), .val (.int N.toInt32), .val (.int b0), .val (.int b1), .val (.int b2), .val (.ref arr), .val (.int fr), .unset, .unset] []))
      refine own_by (fun t kk_ => XS.iconst X0.here hx rfl (hb hby at_127) kk_) ?_
      show OwnG p e below s _ _ _ (T0.setTop (mkF m 128 #[.val (.int k), .val (.int f), .val (.int x0), .val (.int x1), .val (.int x2), .val (.int N.toInt32), .val (.int b0), .val (.int b1), .val (.int b2), .val (.ref arr), .val (.int fr), .unset, .unset] [(.int (0 : Int32))]))
      refine own_by (fun t kk_ => XS.istore X0.here hx rfl (hb hby at_128) rfl (l' := #[.val (.int k), .val (.int f), .val (.int x0), .val (.int x1), .val (.int x2), .val (.int N.toInt32), .val (.int b0), .val (.int b1), .val (.int b2), .val (.ref arr), .val (.int fr), .val (.int (0 : Int32)), .unset]) rfl kk_) ?_
      show OwnG p e below s _ _ _ (T0.setTop (mkF m 130 #[.val (.int k), .val (.int f), .val (.int x0), .val (.int x1), .val (.int x2), .val (.int N.toInt32), .val (.int b0), .val (.int b1), .val (.int b2), .val (.ref arr), .val (.int fr), .val (.int (0 : Int32)), .unset] []))
      refine own_by (fun t kk_ => XS.goto X0.here hx rfl (pc0 := 130) (pc' := 171) rfl (hb hby at_130) (by decide) (by decide) kk_) ?_
      show OwnG p e below s _ _ _ (T0.setTop (mkF m 171 #[.val (.int k), .val (.int f), .val (.int x0), .val (.int x1), .val (.int x2), .val (.int N.toInt32), .val (.int b0), .val (.int b1), .val (.int b2), .val (.ref arr), .val (.int fr), .val (.int (0 : Int32)), .unset] []))
      refine own_by (fun t kk_ => XS.aload X0.here hx rfl (hb hby at_171) rfl rfl kk_) ?_
      show OwnG p e below s _ _ _ (T0.setTop (mkF m 173 #[.val (.int k), .val (.int f), .val (.int x0), .val (.int x1), .val (.int x2), .val (.int N.toInt32), .val (.int b0), .val (.int b1), .val (.int b2), .val (.ref arr), .val (.int fr), .val (.int (0 : Int32)), .unset] [(.ref arr)]))
      refine own_by (fun t kk_ => XS.iload X0.here hx rfl (hb hby at_173) rfl  kk_) ?_
      show OwnG p e below s _ _ _ (T0.setTop (mkF m 175 #[.val (.int k), .val (.int f), .val (.int x0), .val (.int x1), .val (.int x2), .val (.int N.toInt32), .val (.int b0), .val (.int b1), .val (.int b2), .val (.ref arr), .val (.int fr), .val (.int (0 : Int32)), .unset] [(.int fr), (.ref arr)]))
      obtain ⟨_, _, ⟨T27, L27, k27, n27⟩, -, X27, ⟨Lc27, hQ27, l27, y27, z27⟩, st27⟩ := Jvm.LawKit.callS X0 hx (y := (⟨"com/example/syncline/syncline/transport/Packets", "isView", "([BI)Z"⟩ : MethodName)) hown (mvT hZ (hw _ (List.mem_of_getElem? (i := 5) rfl))) (mvT hZ (hw _ (List.mem_of_getElem? (i := 6) rfl))) (mvT hZ (hw _ (List.mem_of_getElem? (i := 7) rfl))) (mvT hZ (hw _ (List.mem_of_getElem? (i := 8) rfl))) (by decide) (backOf (W := 0) (rm2 l Z a0 hw [] arr fr N (own_g b0 b1 b2) h0 n0 Z0 A0 h_fr0) hZ (hw _ (List.mem_of_getElem? (i := 8) rfl)) (hw _ (List.mem_of_getElem? (i := 7) rfl)) (by decide) (by decide)) (g := (mkF m 175 #[.val (.int k), .val (.int f), .val (.int x0), .val (.int x1), .val (.int x2), .val (.int N.toInt32), .val (.int b0), .val (.int b1), .val (.int b2), .val (.ref arr), .val (.int fr), .val (.int (0 : Int32)), .unset] [(.int fr), (.ref arr)])) rfl (by rw [hml]; rfl) (argsL := [(.ref arr), (.int fr)]) (rest := []) (lenOf pd_1 rfl) rfl (by show 2 * 0 + _ ≤ _; exact Nat.le_of_eq rfl) (hb hby at_175) (fun _ _ => ⟨rfl, e0, (by decide : 0 + 1 + 0 ≤ _), (by decide : 0 + 3 + 0 ≤ _)⟩)
      dsimp only [Pt.U, Pt.locs, Pt.cells, Pt.slots] at X27 l27 y27 z27 st27 hQ27
      subst l27 y27 z27
      refine own_by (fun t kk_ => st27 _ kk_) ?_
      obtain ⟨rfl, N27q, hh27⟩ := hQ27
      have N27 := Fr.app N0 N27q
      show OwnG p e below s _ _ _ (T27.setTop (mkF m 178 #[.val (.int k), .val (.int f), .val (.int x0), .val (.int x1), .val (.int x2), .val (.int N.toInt32), .val (.int b0), .val (.int b1), .val (.int b2), .val (.ref arr), .val (.int fr), .val (.int (0 : Int32)), .unset] [(.int (own_r fr N (own_g b0 b1 b2)))]))
      refine own_by (fun t kk_ => XS.iload X27.here hx rfl (hb hby at_178) rfl  kk_) ?_
      show OwnG p e below s _ _ _ (T27.setTop (mkF m 180 #[.val (.int k), .val (.int f), .val (.int x0), .val (.int x1), .val (.int x2), .val (.int N.toInt32), .val (.int b0), .val (.int b1), .val (.int b2), .val (.ref arr), .val (.int fr), .val (.int (0 : Int32)), .unset] [(.int (0 : Int32)), (.int (own_r fr N (own_g b0 b1 b2)))]))
      refine own_by (fun t kk_ => XS.icmpNo X27.here hx rfl (hb hby at_180) rfl (teq (own_rA hb124_15 (by omega))).2 kk_) ?_
      show OwnG p e below s _ _ _ (T27.setTop (mkF m 183 #[.val (.int k), .val (.int f), .val (.int x0), .val (.int x1), .val (.int x2), .val (.int N.toInt32), .val (.int b0), .val (.int b1), .val (.int b2), .val (.ref arr), .val (.int fr), .val (.int (0 : Int32)), .unset] []))
      refine own_by (fun t kk_ => XS.iconst X27.here hx rfl (hb hby at_183) kk_) ?_
      show OwnG p e below s _ _ _ (T27.setTop (mkF m 184 #[.val (.int k), .val (.int f), .val (.int x0), .val (.int x1), .val (.int x2), .val (.int N.toInt32), .val (.int b0), .val (.int b1), .val (.int b2), .val (.ref arr), .val (.int fr), .val (.int (0 : Int32)), .unset] [(.int (1 : Int32))]))
      refine own_by (fun t kk_ => XS.goto X27.here hx rfl (pc0 := 184) (pc' := 188) rfl (hb hby at_184) (by decide) (by decide) kk_) ?_
      show OwnG p e below s _ _ _ (T27.setTop (mkF m 188 #[.val (.int k), .val (.int f), .val (.int x0), .val (.int x1), .val (.int x2), .val (.int N.toInt32), .val (.int b0), .val (.int b1), .val (.int b2), .val (.ref arr), .val (.int fr), .val (.int (0 : Int32)), .unset] [(.int (1 : Int32))]))
      exact own_outN X27 hx hret (by simp) hlk (hb hby at_188) rfl (⟨rfl, N27⟩) (by decide) (by decide)
theorem ef_0 (m : MethodId) (x0 : Int32) (x1 : Int32) (x2 : Int32) (x3 : Int32) (x4 : Int32) : entryFrame m #[(.int x0), (.int x1), (.int x2), (.int x3), (.int x4)] maxLocals = mkF m 0 #[.val (.int x0), .val (.int x1), .val (.int x2), .val (.int x3), .val (.int x4), .unset, .unset, .unset, .unset, .unset, .unset, .unset, .unset] [] := by first | (simp [entryFrame, mkF, argsToLocals, Value.category, maxLocals]; done) | rfl
def Q0 (Z : State) (k f x0 x1 x2 : Int32) (h0 : Heap) (n0 : Nat) (v : Option Value) (h : Heap) (L : List Loc) : Prop := v = some (.int (1 : Int32)) ∧ Fr n0 L
set_option maxRecDepth 65536 in
set_option maxHeartbeats 40000000 in
theorem rm0 (l : Launch) (Z : State) (a0 : Array Value) (hw : ∀ d ∈ tables_1, d.before a0 Z = true) (ws : List Jvm.Cond) (k f x0 x1 x2 : Int32) (h0 : Heap) (n0 : Nat) (Z0 : n0 ≤ h0.size) :
    MetFree l x (head1 (Jvm.Cond.code x code maxLocals ret :: ws) room_1) (fun a U => a = #[(.int k), (.int f), (.int x0), (.int x1), (.int x2)] ∧ Z.Warmed39 U.vm ∧ U.heap = h0) (fun _ _ _ _ _ => True) (fun _ U o U' => ∃ v L, o = .returned v ∧ Q0 Z k f x0 x1 x2 h0 n0 v U'.heap L ∧ FrameEnd U o U' L room_1.cells room_1.slots) := by
  refine own_met (Q := fun v h L => Q0 Z k f x0 x1 x2 h0 n0 v h L) (plainFor_of_name pn_0) ?_
  intro p e s m below meth c s₁ hx hby hml hret hlk hown hnm hZ X0 e0
  have N0 := Fr.nil n0
  rw [ef_0 m k f x0 x1 x2]
  show OwnG p e below s _ _ _ (s₁.setTop (mkF m 0 #[.val (.int k), .val (.int f), .val (.int x0), .val (.int x1), .val (.int x2), .unset, .unset, .unset, .unset, .unset, .unset, .unset, .unset] []))
  refine own_by (fun t kk_ => XS.iloadN X0.here hx rfl (hb hby at_0) rfl  kk_) ?_
  show OwnG p e below s _ _ _ (s₁.setTop (mkF m 1 #[.val (.int k), .val (.int f), .val (.int x0), .val (.int x1), .val (.int x2), .unset, .unset, .unset, .unset, .unset, .unset, .unset, .unset] [(.int k)]))
  refine own_by (fun t kk_ => XS.iconst X0.here hx rfl (hb hby at_1) kk_) ?_
  show OwnG p e below s _ _ _ (s₁.setTop (mkF m 2 #[.val (.int k), .val (.int f), .val (.int x0), .val (.int x1), .val (.int x2), .unset, .unset, .unset, .unset, .unset, .unset, .unset, .unset] [(.int (3 : Int32)), (.int k)]))
  refine own_by (fun t kk_ => XS.iand X0.here hx rfl (hb hby at_2) rfl kk_) ?_
  show OwnG p e below s _ _ _ (s₁.setTop (mkF m 3 #[.val (.int k), .val (.int f), .val (.int x0), .val (.int x1), .val (.int x2), .unset, .unset, .unset, .unset, .unset, .unset, .unset, .unset] [(.int (k &&& (3 : Int32)))]))
  generalize h_nn : (k &&& (3 : Int32)) = nn
  show OwnG p e below s _ _ _ (s₁.setTop (mkF m 3 #[.val (.int k), .val (.int f), .val (.int x0), .val (.int x1), .val (.int x2), .unset, .unset, .unset, .unset, .unset, .unset, .unset, .unset] [(.int nn)]))
  refine own_by (fun t kk_ => XS.istore X0.here hx rfl (hb hby at_3) rfl (l' := #[.val (.int k), .val (.int f), .val (.int x0), .val (.int x1), .val (.int x2), .val (.int nn), .unset, .unset, .unset, .unset, .unset, .unset, .unset]) rfl kk_) ?_
  show OwnG p e below s _ _ _ (s₁.setTop (mkF m 5 #[.val (.int k), .val (.int f), .val (.int x0), .val (.int x1), .val (.int x2), .val (.int nn), .unset, .unset, .unset, .unset, .unset, .unset, .unset] []))
  refine own_by (fun t kk_ => XS.iloadN X0.here hx rfl (hb hby at_5) rfl  kk_) ?_
  show OwnG p e below s _ _ _ (s₁.setTop (mkF m 6 #[.val (.int k), .val (.int f), .val (.int x0), .val (.int x1), .val (.int x2), .val (.int nn), .unset, .unset, .unset, .unset, .unset, .unset, .unset] [(.int x0)]))
  obtain ⟨_, _, ⟨T1, L1, k1, n1⟩, -, X1, ⟨Lc1, hQ1, l1, y1, z1⟩, st1⟩ := Jvm.LawKit.callS X0 hx (y := (⟨"com/example/syncline/syncline/transport/PacketsIsViewPinLaw", "draw", "(I)B"⟩ : MethodName)) hown (mvT hZ (hw _ (List.mem_of_getElem? (i := 0) rfl))) (mvT hZ (hw _ (List.mem_of_getElem? (i := 1) rfl))) (mvT hZ (hw _ (List.mem_of_getElem? (i := 2) rfl))) (mvT hZ (hw _ (List.mem_of_getElem? (i := 3) rfl))) (by decide) (backOf (W := 0) (rm1 l Z a0 hw [] x0 h0 n0 Z0) hZ (hw _ (List.mem_of_getElem? (i := 3) rfl)) (hw _ (List.mem_of_getElem? (i := 2) rfl)) (by decide) (by decide)) (g := (mkF m 6 #[.val (.int k), .val (.int f), .val (.int x0), .val (.int x1), .val (.int x2), .val (.int nn), .unset, .unset, .unset, .unset, .unset, .unset, .unset] [(.int x0)])) rfl (by rw [hml]; rfl) (argsL := [(.int x0)]) (rest := []) (lenOf pd_0 rfl) rfl (by show 2 * 0 + _ ≤ _; exact Nat.le_of_eq rfl) (hb hby at_6) (fun _ _ => ⟨rfl, e0, (by decide : 0 + 0 ≤ _), (by decide : 0 + 0 ≤ _)⟩)
  dsimp only [Pt.U, Pt.locs, Pt.cells, Pt.slots] at X1 l1 y1 z1 st1 hQ1
  subst l1 y1 z1
  refine own_by (fun t kk_ => st1 _ kk_) ?_
  obtain ⟨⟨b0, rfl, hb0⟩, N1q, hh1⟩ := hQ1
  have N1 := Fr.app N0 N1q
  have sz1 : n0 ≤ T1.heap.size := by rw [hh1]; exact Z0
  show OwnG p e below s _ _ _ (T1.setTop (mkF m 9 #[.val (.int k), .val (.int f), .val (.int x0), .val (.int x1), .val (.int x2), .val (.int nn), .unset, .unset, .unset, .unset, .unset, .unset, .unset] [(.int b0)]))
  refine own_by (fun t kk_ => XS.istore X1.here hx rfl (hb hby at_9) rfl (l' := #[.val (.int k), .val (.int f), .val (.int x0), .val (.int x1), .val (.int x2), .val (.int nn), .val (.int b0), .unset, .unset, .unset, .unset, .unset, .unset]) rfl kk_) ?_
  show OwnG p e below s _ _ _ (T1.setTop (mkF m 11 #[.val (.int k), .val (.int f), .val (.int x0), .val (.int x1), .val (.int x2), .val (.int nn), .val (.int b0), .unset, .unset, .unset, .unset, .unset, .unset] []))
  refine own_by (fun t kk_ => XS.iloadN X1.here hx rfl (hb hby at_11) rfl  kk_) ?_
  show OwnG p e below s _ _ _ (T1.setTop (mkF m 12 #[.val (.int k), .val (.int f), .val (.int x0), .val (.int x1), .val (.int x2), .val (.int nn), .val (.int b0), .unset, .unset, .unset, .unset, .unset, .unset] [(.int x1)]))
  obtain ⟨_, _, ⟨T2, L2, k2, n2⟩, -, X2, ⟨Lc2, hQ2, l2, y2, z2⟩, st2⟩ := Jvm.LawKit.callS X1 hx (y := (⟨"com/example/syncline/syncline/transport/PacketsIsViewPinLaw", "draw", "(I)B"⟩ : MethodName)) hown (mvT hZ (hw _ (List.mem_of_getElem? (i := 0) rfl))) (mvT hZ (hw _ (List.mem_of_getElem? (i := 1) rfl))) (mvT hZ (hw _ (List.mem_of_getElem? (i := 2) rfl))) (mvT hZ (hw _ (List.mem_of_getElem? (i := 3) rfl))) (by decide) (backOf (W := 0) (rm1 l Z a0 hw [] x1 T1.heap n0 sz1) hZ (hw _ (List.mem_of_getElem? (i := 3) rfl)) (hw _ (List.mem_of_getElem? (i := 2) rfl)) (by decide) (by decide)) (g := (mkF m 12 #[.val (.int k), .val (.int f), .val (.int x0), .val (.int x1), .val (.int x2), .val (.int nn), .val (.int b0), .unset, .unset, .unset, .unset, .unset, .unset] [(.int x1)])) rfl (by rw [hml]; rfl) (argsL := [(.int x1)]) (rest := []) (lenOf pd_0 rfl) rfl (by show 2 * 0 + _ ≤ _; exact Nat.le_of_eq rfl) (hb hby at_12) (fun _ _ => ⟨rfl, (rfl : T1.heap = T1.heap), (by decide : 0 + 0 ≤ _), (by decide : 0 + 0 ≤ _)⟩)
  dsimp only [Pt.U, Pt.locs, Pt.cells, Pt.slots] at X2 l2 y2 z2 st2 hQ2
  subst l2 y2 z2
  refine own_by (fun t kk_ => st2 _ kk_) ?_
  obtain ⟨⟨b1, rfl, hb1⟩, N2q, hh2⟩ := hQ2
  have N2 := Fr.app N1 N2q
  have sz2 : n0 ≤ T2.heap.size := by rw [hh2]; exact sz1
  show OwnG p e below s _ _ _ (T2.setTop (mkF m 15 #[.val (.int k), .val (.int f), .val (.int x0), .val (.int x1), .val (.int x2), .val (.int nn), .val (.int b0), .unset, .unset, .unset, .unset, .unset, .unset] [(.int b1)]))
  refine own_by (fun t kk_ => XS.istore X2.here hx rfl (hb hby at_15) rfl (l' := #[.val (.int k), .val (.int f), .val (.int x0), .val (.int x1), .val (.int x2), .val (.int nn), .val (.int b0), .val (.int b1), .unset, .unset, .unset, .unset, .unset]) rfl kk_) ?_
  show OwnG p e below s _ _ _ (T2.setTop (mkF m 17 #[.val (.int k), .val (.int f), .val (.int x0), .val (.int x1), .val (.int x2), .val (.int nn), .val (.int b0), .val (.int b1), .unset, .unset, .unset, .unset, .unset] []))
  refine own_by (fun t kk_ => XS.iload X2.here hx rfl (hb hby at_17) rfl  kk_) ?_
  show OwnG p e below s _ _ _ (T2.setTop (mkF m 19 #[.val (.int k), .val (.int f), .val (.int x0), .val (.int x1), .val (.int x2), .val (.int nn), .val (.int b0), .val (.int b1), .unset, .unset, .unset, .unset, .unset] [(.int x2)]))
  obtain ⟨_, _, ⟨T3, L3, k3, n3⟩, -, X3, ⟨Lc3, hQ3, l3, y3, z3⟩, st3⟩ := Jvm.LawKit.callS X2 hx (y := (⟨"com/example/syncline/syncline/transport/PacketsIsViewPinLaw", "draw", "(I)B"⟩ : MethodName)) hown (mvT hZ (hw _ (List.mem_of_getElem? (i := 0) rfl))) (mvT hZ (hw _ (List.mem_of_getElem? (i := 1) rfl))) (mvT hZ (hw _ (List.mem_of_getElem? (i := 2) rfl))) (mvT hZ (hw _ (List.mem_of_getElem? (i := 3) rfl))) (by decide) (backOf (W := 0) (rm1 l Z a0 hw [] x2 T2.heap n0 sz2) hZ (hw _ (List.mem_of_getElem? (i := 3) rfl)) (hw _ (List.mem_of_getElem? (i := 2) rfl)) (by decide) (by decide)) (g := (mkF m 19 #[.val (.int k), .val (.int f), .val (.int x0), .val (.int x1), .val (.int x2), .val (.int nn), .val (.int b0), .val (.int b1), .unset, .unset, .unset, .unset, .unset] [(.int x2)])) rfl (by rw [hml]; rfl) (argsL := [(.int x2)]) (rest := []) (lenOf pd_0 rfl) rfl (by show 2 * 0 + _ ≤ _; exact Nat.le_of_eq rfl) (hb hby at_19) (fun _ _ => ⟨rfl, (rfl : T2.heap = T2.heap), (by decide : 0 + 0 ≤ _), (by decide : 0 + 0 ≤ _)⟩)
  dsimp only [Pt.U, Pt.locs, Pt.cells, Pt.slots] at X3 l3 y3 z3 st3 hQ3
  subst l3 y3 z3
  refine own_by (fun t kk_ => st3 _ kk_) ?_
  obtain ⟨⟨b2, rfl, hb2⟩, N3q, hh3⟩ := hQ3
  have N3 := Fr.app N2 N3q
  have sz3 : n0 ≤ T3.heap.size := by rw [hh3]; exact sz2
  show OwnG p e below s _ _ _ (T3.setTop (mkF m 22 #[.val (.int k), .val (.int f), .val (.int x0), .val (.int x1), .val (.int x2), .val (.int nn), .val (.int b0), .val (.int b1), .unset, .unset, .unset, .unset, .unset] [(.int b2)]))
  refine own_by (fun t kk_ => XS.istore X3.here hx rfl (hb hby at_22) rfl (l' := #[.val (.int k), .val (.int f), .val (.int x0), .val (.int x1), .val (.int x2), .val (.int nn), .val (.int b0), .val (.int b1), .val (.int b2), .unset, .unset, .unset, .unset]) rfl kk_) ?_
  show OwnG p e below s _ _ _ (T3.setTop (mkF m 24 #[.val (.int k), .val (.int f), .val (.int x0), .val (.int x1), .val (.int x2), .val (.int nn), .val (.int b0), .val (.int b1), .val (.int b2), .unset, .unset, .unset, .unset] []))
  refine own_by (fun t kk_ => XS.iload X3.here hx rfl (hb hby at_24) rfl  kk_) ?_
  show OwnG p e below s _ _ _ (T3.setTop (mkF m 26 #[.val (.int k), .val (.int f), .val (.int x0), .val (.int x1), .val (.int x2), .val (.int nn), .val (.int b0), .val (.int b1), .val (.int b2), .unset, .unset, .unset, .unset] [(.int nn)]))
  by_cases hn0 : nn = (0 : Int32)
  · refine own_by (fun t kk_ => XS.ifNo X3.here hx rfl (hb hby at_26) rfl ((if0 _ _).trans (teq hn0).2) kk_) ?_
    show OwnG p e below s _ _ _ (T3.setTop (mkF m 29 #[.val (.int k), .val (.int f), .val (.int x0), .val (.int x1), .val (.int x2), .val (.int nn), .val (.int b0), .val (.int b1), .val (.int b2), .unset, .unset, .unset, .unset] []))
    refine own_by (fun t kk_ => XS.iconst X3.here hx rfl (hb hby at_29) kk_) ?_
    show OwnG p e below s _ _ _ (T3.setTop (mkF m 30 #[.val (.int k), .val (.int f), .val (.int x0), .val (.int x1), .val (.int x2), .val (.int nn), .val (.int b0), .val (.int b1), .val (.int b2), .unset, .unset, .unset, .unset] [(.int (0 : Int32))]))
    obtain ⟨T4, h4, k4, X4, e4, E4, A4, st4⟩ := newP X3 hx hZ (hw _ (List.mem_of_getElem? (i := 4) rfl)) (rfl : T3.heap = T3.heap) (g := (mkF m 30 #[.val (.int k), .val (.int f), .val (.int x0), .val (.int x1), .val (.int x2), .val (.int nn), .val (.int b0), .val (.int b1), .val (.int b2), .unset, .unset, .unset, .unset] [(.int (0 : Int32))])) rfl (hb hby at_30) rfl (by decide) (cap := 3) (by decide) (by decide) (by decide) (by decide)
    obtain ⟨b4, g4⟩ : ∃ z, z = T3.heap.size := ⟨_, rfl⟩
    rw [← g4] at A4 st4
    have gg_b4 : n0 ≤ b4 := by rw [g4]; exact sz3
    have sz4 : n0 ≤ h4.size := Nat.le_trans sz3 E4.1
    refine own_by (fun t kk_ => st4 _ kk_) ?_
    have f5 : OwnA Z h4 b4 .byte 0 (fun _ => (defaultValue .byte)) := OwnA.new A4 (n := 0) (by decide) rfl
    show OwnG p e below s _ _ _ (T4.setTop (mkF m 32 #[.val (.int k), .val (.int f), .val (.int x0), .val (.int x1), .val (.int x2), .val (.int nn), .val (.int b0), .val (.int b1), .val (.int b2), .unset, .unset, .unset, .unset] [(.ref b4)]))
    refine own_by (fun t kk_ => XS.astore X4.here hx rfl (hb hby at_32) rfl rfl (l' := #[.val (.int k), .val (.int f), .val (.int x0), .val (.int x1), .val (.int x2), .val (.int nn), .val (.int b0), .val (.int b1), .val (.int b2), .val (.ref b4), .unset, .unset, .unset]) rfl kk_) ?_
    show OwnG p e below s _ _ _ (T4.setTop (mkF m 34 #[.val (.int k), .val (.int f), .val (.int x0), .val (.int x1), .val (.int x2), .val (.int nn), .val (.int b0), .val (.int b1), .val (.int b2), .val (.ref b4), .unset, .unset, .unset] []))
    refine own_by (fun t kk_ => XS.goto X4.here hx rfl (pc0 := 34) (pc' := 100) rfl (hb hby at_34) (by decide) (by decide) kk_) ?_
    show OwnG p e below s _ _ _ (T4.setTop (mkF m 100 #[.val (.int k), .val (.int f), .val (.int x0), .val (.int x1), .val (.int x2), .val (.int nn), .val (.int b0), .val (.int b1), .val (.int b2), .val (.ref b4), .unset, .unset, .unset] []))
    subst hn0
    exact own_tail k f x0 x1 x2 b0 b1 b2 b4 0 X4 hx hby hml hret hlk hown hnm hZ hw e4 N3 sz4 (OwnA.congr f5 (fun i hi => by rcases i with _ | _ | _ | i <;> first | omega | simp [ownSet, own_g, hb0, hb1, hb2])) (by decide)
  · refine own_by (fun t kk_ => XS.ifYes X3.here hx rfl (pc0 := 26) (pc' := 37) rfl (hb hby at_26) rfl ((if0 _ _).trans (feq hn0).2) (by decide) (by decide) kk_) ?_
    show OwnG p e below s _ _ _ (T3.setTop (mkF m 37 #[.val (.int k), .val (.int f), .val (.int x0), .val (.int x1), .val (.int x2), .val (.int nn), .val (.int b0), .val (.int b1), .val (.int b2), .unset, .unset, .unset, .unset] []))
    refine own_by (fun t kk_ => XS.iload X3.here hx rfl (hb hby at_37) rfl  kk_) ?_
    show OwnG p e below s _ _ _ (T3.setTop (mkF m 39 #[.val (.int k), .val (.int f), .val (.int x0), .val (.int x1), .val (.int x2), .val (.int nn), .val (.int b0), .val (.int b1), .val (.int b2), .unset, .unset, .unset, .unset] [(.int nn)]))
    refine own_by (fun t kk_ => XS.iconst X3.here hx rfl (hb hby at_39) kk_) ?_
    show OwnG p e below s _ _ _ (T3.setTop (mkF m 40 #[.val (.int k), .val (.int f), .val (.int x0), .val (.int x1), .val (.int x2), .val (.int nn), .val (.int b0), .val (.int b1), .val (.int b2), .unset, .unset, .unset, .unset] [(.int (1 : Int32)), (.int nn)]))
    by_cases hn1 : nn = (1 : Int32)
    · refine own_by (fun t kk_ => XS.icmpNo X3.here hx rfl (hb hby at_40) rfl (teq hn1).2 kk_) ?_
      show OwnG p e below s _ _ _ (T3.setTop (mkF m 43 #[.val (.int k), .val (.int f), .val (.int x0), .val (.int x1), .val (.int x2), .val (.int nn), .val (.int b0), .val (.int b1), .val (.int b2), .unset, .unset, .unset, .unset] []))
      refine own_by (fun t kk_ => XS.iconst X3.here hx rfl (hb hby at_43) kk_) ?_
      show OwnG p e below s _ _ _ (T3.setTop (mkF m 44 #[.val (.int k), .val (.int f), .val (.int x0), .val (.int x1), .val (.int x2), .val (.int nn), .val (.int b0), .val (.int b1), .val (.int b2), .unset, .unset, .unset, .unset] [(.int (1 : Int32))]))
      obtain ⟨T6, h6, k6, X6, e6, E6, A6, st6⟩ := newP X3 hx hZ (hw _ (List.mem_of_getElem? (i := 4) rfl)) (rfl : T3.heap = T3.heap) (g := (mkF m 44 #[.val (.int k), .val (.int f), .val (.int x0), .val (.int x1), .val (.int x2), .val (.int nn), .val (.int b0), .val (.int b1), .val (.int b2), .unset, .unset, .unset, .unset] [(.int (1 : Int32))])) rfl (hb hby at_44) rfl (by decide) (cap := 3) (by decide) (by decide) (by decide) (by decide)
      obtain ⟨b6, g6⟩ : ∃ z, z = T3.heap.size := ⟨_, rfl⟩
      rw [← g6] at A6 st6
      have gg_b6 : n0 ≤ b6 := by rw [g6]; exact sz3
      have sz6 : n0 ≤ h6.size := Nat.le_trans sz3 E6.1
      refine own_by (fun t kk_ => st6 _ kk_) ?_
      have f7 : OwnA Z h6 b6 .byte 1 (fun _ => (defaultValue .byte)) := OwnA.new A6 (n := 1) (by decide) rfl
      show OwnG p e below s _ _ _ (T6.setTop (mkF m 46 #[.val (.int k), .val (.int f), .val (.int x0), .val (.int x1), .val (.int x2), .val (.int nn), .val (.int b0), .val (.int b1), .val (.int b2), .unset, .unset, .unset, .unset] [(.ref b6)]))
      refine own_by (fun t kk_ => XS.dup X6.here hx rfl (hb hby at_46) rfl rfl kk_) ?_
      show OwnG p e below s _ _ _ (T6.setTop (mkF m 47 #[.val (.int k), .val (.int f), .val (.int x0), .val (.int x1), .val (.int x2), .val (.int nn), .val (.int b0), .val (.int b1), .val (.int b2), .unset, .unset, .unset, .unset] [(.ref b6), (.ref b6)]))
      refine own_by (fun t kk_ => XS.iconst X6.here hx rfl (hb hby at_47) kk_) ?_
      show OwnG p e below s _ _ _ (T6.setTop (mkF m 48 #[.val (.int k), .val (.int f), .val (.int x0), .val (.int x1), .val (.int x2), .val (.int nn), .val (.int b0), .val (.int b1), .val (.int b2), .unset, .unset, .unset, .unset] [(.int (0 : Int32)), (.ref b6), (.ref b6)]))
      refine own_by (fun t kk_ => XS.iload X6.here hx rfl (hb hby at_48) rfl  kk_) ?_
      show OwnG p e below s _ _ _ (T6.setTop (mkF m 50 #[.val (.int k), .val (.int f), .val (.int x0), .val (.int x1), .val (.int x2), .val (.int nn), .val (.int b0), .val (.int b1), .val (.int b2), .unset, .unset, .unset, .unset] [(.int b0), (.int (0 : Int32)), (.ref b6), (.ref b6)]))
      obtain ⟨T8, h8, X8, e8, W8, A8, st8⟩ := own_stB X6 hx hZ e6 f7 (j := (0 : Int32)) (i := 0) ⟨by decide, rfl, by decide⟩ (g := (mkF m 50 #[.val (.int k), .val (.int f), .val (.int x0), .val (.int x1), .val (.int x2), .val (.int nn), .val (.int b0), .val (.int b1), .val (.int b2), .unset, .unset, .unset, .unset] [(.int b0), (.int (0 : Int32)), (.ref b6), (.ref b6)])) rfl rfl (hb hby at_50)
      refine own_by (fun t kk_ => st8 _ kk_) ?_
      have N8 := Fr.snoc X8 N3 gg_b6
      have sz8 : n0 ≤ h8.size := by rw [W8.size]; exact sz6
      show OwnG p e below s _ _ _ (T8.setTop (mkF m 51 #[.val (.int k), .val (.int f), .val (.int x0), .val (.int x1), .val (.int x2), .val (.int nn), .val (.int b0), .val (.int b1), .val (.int b2), .unset, .unset, .unset, .unset] [(.ref b6)]))
      refine own_by (fun t kk_ => XS.astore X8.here hx rfl (hb hby at_51) rfl rfl (l' := #[.val (.int k), .val (.int f), .val (.int x0), .val (.int x1), .val (.int x2), .val (.int nn), .val (.int b0), .val (.int b1), .val (.int b2), .val (.ref b6), .unset, .unset, .unset]) rfl kk_) ?_
      show OwnG p e below s _ _ _ (T8.setTop (mkF m 53 #[.val (.int k), .val (.int f), .val (.int x0), .val (.int x1), .val (.int x2), .val (.int nn), .val (.int b0), .val (.int b1), .val (.int b2), .val (.ref b6), .unset, .unset, .unset] []))
      refine own_by (fun t kk_ => XS.goto X8.here hx rfl (pc0 := 53) (pc' := 100) rfl (hb hby at_53) (by decide) (by decide) kk_) ?_
      show OwnG p e below s _ _ _ (T8.setTop (mkF m 100 #[.val (.int k), .val (.int f), .val (.int x0), .val (.int x1), .val (.int x2), .val (.int nn), .val (.int b0), .val (.int b1), .val (.int b2), .val (.ref b6), .unset, .unset, .unset] []))
      subst hn1
      exact own_tail k f x0 x1 x2 b0 b1 b2 b6 1 X8 hx hby hml hret hlk hown hnm hZ hw e8 N8 sz8 (OwnA.congr A8 (fun i hi => by rcases i with _ | _ | _ | i <;> first | omega | simp [ownSet, own_g, hb0, hb1, hb2])) (by decide)
    · refine own_by (fun t kk_ => XS.icmpYes X3.here hx rfl (pc0 := 40) (pc' := 56) rfl (hb hby at_40) rfl (feq hn1).2 (by decide) (by decide) kk_) ?_
      show OwnG p e below s _ _ _ (T3.setTop (mkF m 56 #[.val (.int k), .val (.int f), .val (.int x0), .val (.int x1), .val (.int x2), .val (.int nn), .val (.int b0), .val (.int b1), .val (.int b2), .unset, .unset, .unset, .unset] []))
      refine own_by (fun t kk_ => XS.iload X3.here hx rfl (hb hby at_56) rfl  kk_) ?_
      show OwnG p e below s _ _ _ (T3.setTop (mkF m 58 #[.val (.int k), .val (.int f), .val (.int x0), .val (.int x1), .val (.int x2), .val (.int nn), .val (.int b0), .val (.int b1), .val (.int b2), .unset, .unset, .unset, .unset] [(.int nn)]))
      refine own_by (fun t kk_ => XS.iconst X3.here hx rfl (hb hby at_58) kk_) ?_
      show OwnG p e below s _ _ _ (T3.setTop (mkF m 59 #[.val (.int k), .val (.int f), .val (.int x0), .val (.int x1), .val (.int x2), .val (.int nn), .val (.int b0), .val (.int b1), .val (.int b2), .unset, .unset, .unset, .unset] [(.int (2 : Int32)), (.int nn)]))
      by_cases hn2 : nn = (2 : Int32)
      · refine own_by (fun t kk_ => XS.icmpNo X3.here hx rfl (hb hby at_59) rfl (teq hn2).2 kk_) ?_
        show OwnG p e below s _ _ _ (T3.setTop (mkF m 62 #[.val (.int k), .val (.int f), .val (.int x0), .val (.int x1), .val (.int x2), .val (.int nn), .val (.int b0), .val (.int b1), .val (.int b2), .unset, .unset, .unset, .unset] []))
        refine own_by (fun t kk_ => XS.iconst X3.here hx rfl (hb hby at_62) kk_) ?_
        show OwnG p e below s _ _ _ (T3.setTop (mkF m 63 #[.val (.int k), .val (.int f), .val (.int x0), .val (.int x1), .val (.int x2), .val (.int nn), .val (.int b0), .val (.int b1), .val (.int b2), .unset, .unset, .unset, .unset] [(.int (2 : Int32))]))
        obtain ⟨T10, h10, k10, X10, e10, E10, A10, st10⟩ := newP X3 hx hZ (hw _ (List.mem_of_getElem? (i := 4) rfl)) (rfl : T3.heap = T3.heap) (g := (mkF m 63 #[.val (.int k), .val (.int f), .val (.int x0), .val (.int x1), .val (.int x2), .val (.int nn), .val (.int b0), .val (.int b1), .val (.int b2), .unset, .unset, .unset, .unset] [(.int (2 : Int32))])) rfl (hb hby at_63) rfl (by decide) (cap := 3) (by decide) (by decide) (by decide) (by decide)
        obtain ⟨b10, g10⟩ : ∃ z, z = T3.heap.size := ⟨_, rfl⟩
        rw [← g10] at A10 st10
        have gg_b10 : n0 ≤ b10 := by rw [g10]; exact sz3
        have sz10 : n0 ≤ h10.size := Nat.le_trans sz3 E10.1
        refine own_by (fun t kk_ => st10 _ kk_) ?_
        have f11 : OwnA Z h10 b10 .byte 2 (fun _ => (defaultValue .byte)) := OwnA.new A10 (n := 2) (by decide) rfl
        show OwnG p e below s _ _ _ (T10.setTop (mkF m 65 #[.val (.int k), .val (.int f), .val (.int x0), .val (.int x1), .val (.int x2), .val (.int nn), .val (.int b0), .val (.int b1), .val (.int b2), .unset, .unset, .unset, .unset] [(.ref b10)]))
        refine own_by (fun t kk_ => XS.dup X10.here hx rfl (hb hby at_65) rfl rfl kk_) ?_
        show OwnG p e below s _ _ _ (T10.setTop (mkF m 66 #[.val (.int k), .val (.int f), .val (.int x0), .val (.int x1), .val (.int x2), .val (.int nn), .val (.int b0), .val (.int b1), .val (.int b2), .unset, .unset, .unset, .unset] [(.ref b10), (.ref b10)]))
        refine own_by (fun t kk_ => XS.iconst X10.here hx rfl (hb hby at_66) kk_) ?_
        show OwnG p e below s _ _ _ (T10.setTop (mkF m 67 #[.val (.int k), .val (.int f), .val (.int x0), .val (.int x1), .val (.int x2), .val (.int nn), .val (.int b0), .val (.int b1), .val (.int b2), .unset, .unset, .unset, .unset] [(.int (0 : Int32)), (.ref b10), (.ref b10)]))
        refine own_by (fun t kk_ => XS.iload X10.here hx rfl (hb hby at_67) rfl  kk_) ?_
        show OwnG p e below s _ _ _ (T10.setTop (mkF m 69 #[.val (.int k), .val (.int f), .val (.int x0), .val (.int x1), .val (.int x2), .val (.int nn), .val (.int b0), .val (.int b1), .val (.int b2), .unset, .unset, .unset, .unset] [(.int b0), (.int (0 : Int32)), (.ref b10), (.ref b10)]))
        obtain ⟨T12, h12, X12, e12, W12, A12, st12⟩ := own_stB X10 hx hZ e10 f11 (j := (0 : Int32)) (i := 0) ⟨by decide, rfl, by decide⟩ (g := (mkF m 69 #[.val (.int k), .val (.int f), .val (.int x0), .val (.int x1), .val (.int x2), .val (.int nn), .val (.int b0), .val (.int b1), .val (.int b2), .unset, .unset, .unset, .unset] [(.int b0), (.int (0 : Int32)), (.ref b10), (.ref b10)])) rfl rfl (hb hby at_69)
        refine own_by (fun t kk_ => st12 _ kk_) ?_
        have N12 := Fr.snoc X12 N3 gg_b10
        have sz12 : n0 ≤ h12.size := by rw [W12.size]; exact sz10
        show OwnG p e below s _ _ _ (T12.setTop (mkF m 70 #[.val (.int k), .val (.int f), .val (.int x0), .val (.int x1), .val (.int x2), .val (.int nn), .val (.int b0), .val (.int b1), .val (.int b2), .unset, .unset, .unset, .unset] [(.ref b10)]))
        refine own_by (fun t kk_ => XS.dup X12.here hx rfl (hb hby at_70) rfl rfl kk_) ?_
        show OwnG p e below s _ _ _ (T12.setTop (mkF m 71 #[.val (.int k), .val (.int f), .val (.int x0), .val (.int x1), .val (.int x2), .val (.int nn), .val (.int b0), .val (.int b1), .val (.int b2), .unset, .unset, .unset, .unset] [(.ref b10), (.ref b10)]))
        refine own_by (fun t kk_ => XS.iconst X12.here hx rfl (hb hby at_71) kk_) ?_
        show OwnG p e below s _ _ _ (T12.setTop (mkF m 72 #[.val (.int k), .val (.int f), .val (.int x0), .val (.int x1), .val (.int x2), .val (.int nn), .val (.int b0), .val (.int b1), .val (.int b2), .unset, .unset, .unset, .unset] [(.int (1 : Int32)), (.ref b10), (.ref b10)]))
        refine own_by (fun t kk_ => XS.iload X12.here hx rfl (hb hby at_72) rfl  kk_) ?_
        show OwnG p e below s _ _ _ (T12.setTop (mkF m 74 #[.val (.int k), .val (.int f), .val (.int x0), .val (.int x1), .val (.int x2), .val (.int nn), .val (.int b0), .val (.int b1), .val (.int b2), .unset, .unset, .unset, .unset] [(.int b1), (.int (1 : Int32)), (.ref b10), (.ref b10)]))
        obtain ⟨T14, h14, X14, e14, W14, A14, st14⟩ := own_stB X12 hx hZ e12 A12 (j := (1 : Int32)) (i := 1) ⟨by decide, rfl, by decide⟩ (g := (mkF m 74 #[.val (.int k), .val (.int f), .val (.int x0), .val (.int x1), .val (.int x2), .val (.int nn), .val (.int b0), .val (.int b1), .val (.int b2), .unset, .unset, .unset, .unset] [(.int b1), (.int (1 : Int32)), (.ref b10), (.ref b10)])) rfl rfl (hb hby at_74)
        refine own_by (fun t kk_ => st14 _ kk_) ?_
        have N14 := Fr.snoc X14 N12 gg_b10
        have sz14 : n0 ≤ h14.size := by rw [W14.size]; exact sz12
        show OwnG p e below s _ _ _ (T14.setTop (mkF m 75 #[.val (.int k), .val (.int f), .val (.int x0), .val (.int x1), .val (.int x2), .val (.int nn), .val (.int b0), .val (.int b1), .val (.int b2), .unset, .unset, .unset, .unset] [(.ref b10)]))
        refine own_by (fun t kk_ => XS.astore X14.here hx rfl (hb hby at_75) rfl rfl (l' := #[.val (.int k), .val (.int f), .val (.int x0), .val (.int x1), .val (.int x2), .val (.int nn), .val (.int b0), .val (.int b1), .val (.int b2), .val (.ref b10), .unset, .unset, .unset]) rfl kk_) ?_
        show OwnG p e below s _ _ _ (T14.setTop (mkF m 77 #[.val (.int k), .val (.int f), .val (.int x0), .val (.int x1), .val (.int x2), .val (.int nn), .val (.int b0), .val (.int b1), .val (.int b2), .val (.ref b10), .unset, .unset, .unset] []))
        refine own_by (fun t kk_ => XS.goto X14.here hx rfl (pc0 := 77) (pc' := 100) rfl (hb hby at_77) (by decide) (by decide) kk_) ?_
        show OwnG p e below s _ _ _ (T14.setTop (mkF m 100 #[.val (.int k), .val (.int f), .val (.int x0), .val (.int x1), .val (.int x2), .val (.int nn), .val (.int b0), .val (.int b1), .val (.int b2), .val (.ref b10), .unset, .unset, .unset] []))
        subst hn2
        exact own_tail k f x0 x1 x2 b0 b1 b2 b10 2 X14 hx hby hml hret hlk hown hnm hZ hw e14 N14 sz14 (OwnA.congr A14 (fun i hi => by rcases i with _ | _ | _ | i <;> first | omega | simp [ownSet, own_g, hb0, hb1, hb2])) (by decide)
      · refine own_by (fun t kk_ => XS.icmpYes X3.here hx rfl (pc0 := 59) (pc' := 80) rfl (hb hby at_59) rfl (feq hn2).2 (by decide) (by decide) kk_) ?_
        show OwnG p e below s _ _ _ (T3.setTop (mkF m 80 #[.val (.int k), .val (.int f), .val (.int x0), .val (.int x1), .val (.int x2), .val (.int nn), .val (.int b0), .val (.int b1), .val (.int b2), .unset, .unset, .unset, .unset] []))
        refine own_by (fun t kk_ => XS.iconst X3.here hx rfl (hb hby at_80) kk_) ?_
        show OwnG p e below s _ _ _ (T3.setTop (mkF m 81 #[.val (.int k), .val (.int f), .val (.int x0), .val (.int x1), .val (.int x2), .val (.int nn), .val (.int b0), .val (.int b1), .val (.int b2), .unset, .unset, .unset, .unset] [(.int (3 : Int32))]))
        obtain ⟨T16, h16, k16, X16, e16, E16, A16, st16⟩ := newP X3 hx hZ (hw _ (List.mem_of_getElem? (i := 4) rfl)) (rfl : T3.heap = T3.heap) (g := (mkF m 81 #[.val (.int k), .val (.int f), .val (.int x0), .val (.int x1), .val (.int x2), .val (.int nn), .val (.int b0), .val (.int b1), .val (.int b2), .unset, .unset, .unset, .unset] [(.int (3 : Int32))])) rfl (hb hby at_81) rfl (by decide) (cap := 3) (by decide) (by decide) (by decide) (by decide)
        obtain ⟨b16, g16⟩ : ∃ z, z = T3.heap.size := ⟨_, rfl⟩
        rw [← g16] at A16 st16
        have gg_b16 : n0 ≤ b16 := by rw [g16]; exact sz3
        have sz16 : n0 ≤ h16.size := Nat.le_trans sz3 E16.1
        refine own_by (fun t kk_ => st16 _ kk_) ?_
        have f17 : OwnA Z h16 b16 .byte 3 (fun _ => (defaultValue .byte)) := OwnA.new A16 (n := 3) (by decide) rfl
        show OwnG p e below s _ _ _ (T16.setTop (mkF m 83 #[.val (.int k), .val (.int f), .val (.int x0), .val (.int x1), .val (.int x2), .val (.int nn), .val (.int b0), .val (.int b1), .val (.int b2), .unset, .unset, .unset, .unset] [(.ref b16)]))
        refine own_by (fun t kk_ => XS.dup X16.here hx rfl (hb hby at_83) rfl rfl kk_) ?_
        show OwnG p e below s _ _ _ (T16.setTop (mkF m 84 #[.val (.int k), .val (.int f), .val (.int x0), .val (.int x1), .val (.int x2), .val (.int nn), .val (.int b0), .val (.int b1), .val (.int b2), .unset, .unset, .unset, .unset] [(.ref b16), (.ref b16)]))
        refine own_by (fun t kk_ => XS.iconst X16.here hx rfl (hb hby at_84) kk_) ?_
        show OwnG p e below s _ _ _ (T16.setTop (mkF m 85 #[.val (.int k), .val (.int f), .val (.int x0), .val (.int x1), .val (.int x2), .val (.int nn), .val (.int b0), .val (.int b1), .val (.int b2), .unset, .unset, .unset, .unset] [(.int (0 : Int32)), (.ref b16), (.ref b16)]))
        refine own_by (fun t kk_ => XS.iload X16.here hx rfl (hb hby at_85) rfl  kk_) ?_
        show OwnG p e below s _ _ _ (T16.setTop (mkF m 87 #[.val (.int k), .val (.int f), .val (.int x0), .val (.int x1), .val (.int x2), .val (.int nn), .val (.int b0), .val (.int b1), .val (.int b2), .unset, .unset, .unset, .unset] [(.int b0), (.int (0 : Int32)), (.ref b16), (.ref b16)]))
        obtain ⟨T18, h18, X18, e18, W18, A18, st18⟩ := own_stB X16 hx hZ e16 f17 (j := (0 : Int32)) (i := 0) ⟨by decide, rfl, by decide⟩ (g := (mkF m 87 #[.val (.int k), .val (.int f), .val (.int x0), .val (.int x1), .val (.int x2), .val (.int nn), .val (.int b0), .val (.int b1), .val (.int b2), .unset, .unset, .unset, .unset] [(.int b0), (.int (0 : Int32)), (.ref b16), (.ref b16)])) rfl rfl (hb hby at_87)
        refine own_by (fun t kk_ => st18 _ kk_) ?_
        have N18 := Fr.snoc X18 N3 gg_b16
        have sz18 : n0 ≤ h18.size := by rw [W18.size]; exact sz16
        show OwnG p e below s _ _ _ (T18.setTop (mkF m 88 #[.val (.int k), .val (.int f), .val (.int x0), .val (.int x1), .val (.int x2), .val (.int nn), .val (.int b0), .val (.int b1), .val (.int b2), .unset, .unset, .unset, .unset] [(.ref b16)]))
        refine own_by (fun t kk_ => XS.dup X18.here hx rfl (hb hby at_88) rfl rfl kk_) ?_
        show OwnG p e below s _ _ _ (T18.setTop (mkF m 89 #[.val (.int k), .val (.int f), .val (.int x0), .val (.int x1), .val (.int x2), .val (.int nn), .val (.int b0), .val (.int b1), .val (.int b2), .unset, .unset, .unset, .unset] [(.ref b16), (.ref b16)]))
        refine own_by (fun t kk_ => XS.iconst X18.here hx rfl (hb hby at_89) kk_) ?_
        show OwnG p e below s _ _ _ (T18.setTop (mkF m 90 #[.val (.int k), .val (.int f), .val (.int x0), .val (.int x1), .val (.int x2), .val (.int nn), .val (.int b0), .val (.int b1), .val (.int b2), .unset, .unset, .unset, .unset] [(.int (1 : Int32)), (.ref b16), (.ref b16)]))
        refine own_by (fun t kk_ => XS.iload X18.here hx rfl (hb hby at_90) rfl  kk_) ?_
        show OwnG p e below s _ _ _ (T18.setTop (mkF m 92 #[.val (.int k), .val (.int f), .val (.int x0), .val (.int x1), .val (.int x2), .val (.int nn), .val (.int b0), .val (.int b1), .val (.int b2), .unset, .unset, .unset, .unset] [(.int b1), (.int (1 : Int32)), (.ref b16), (.ref b16)]))
        obtain ⟨T20, h20, X20, e20, W20, A20, st20⟩ := own_stB X18 hx hZ e18 A18 (j := (1 : Int32)) (i := 1) ⟨by decide, rfl, by decide⟩ (g := (mkF m 92 #[.val (.int k), .val (.int f), .val (.int x0), .val (.int x1), .val (.int x2), .val (.int nn), .val (.int b0), .val (.int b1), .val (.int b2), .unset, .unset, .unset, .unset] [(.int b1), (.int (1 : Int32)), (.ref b16), (.ref b16)])) rfl rfl (hb hby at_92)
        refine own_by (fun t kk_ => st20 _ kk_) ?_
        have N20 := Fr.snoc X20 N18 gg_b16
        have sz20 : n0 ≤ h20.size := by rw [W20.size]; exact sz18
        show OwnG p e below s _ _ _ (T20.setTop (mkF m 93 #[.val (.int k), .val (.int f), .val (.int x0), .val (.int x1), .val (.int x2), .val (.int nn), .val (.int b0), .val (.int b1), .val (.int b2), .unset, .unset, .unset, .unset] [(.ref b16)]))
        refine own_by (fun t kk_ => XS.dup X20.here hx rfl (hb hby at_93) rfl rfl kk_) ?_
        show OwnG p e below s _ _ _ (T20.setTop (mkF m 94 #[.val (.int k), .val (.int f), .val (.int x0), .val (.int x1), .val (.int x2), .val (.int nn), .val (.int b0), .val (.int b1), .val (.int b2), .unset, .unset, .unset, .unset] [(.ref b16), (.ref b16)]))
        refine own_by (fun t kk_ => XS.iconst X20.here hx rfl (hb hby at_94) kk_) ?_
        show OwnG p e below s _ _ _ (T20.setTop (mkF m 95 #[.val (.int k), .val (.int f), .val (.int x0), .val (.int x1), .val (.int x2), .val (.int nn), .val (.int b0), .val (.int b1), .val (.int b2), .unset, .unset, .unset, .unset] [(.int (2 : Int32)), (.ref b16), (.ref b16)]))
        refine own_by (fun t kk_ => XS.iload X20.here hx rfl (hb hby at_95) rfl  kk_) ?_
        show OwnG p e below s _ _ _ (T20.setTop (mkF m 97 #[.val (.int k), .val (.int f), .val (.int x0), .val (.int x1), .val (.int x2), .val (.int nn), .val (.int b0), .val (.int b1), .val (.int b2), .unset, .unset, .unset, .unset] [(.int b2), (.int (2 : Int32)), (.ref b16), (.ref b16)]))
        obtain ⟨T22, h22, X22, e22, W22, A22, st22⟩ := own_stB X20 hx hZ e20 A20 (j := (2 : Int32)) (i := 2) ⟨by decide, rfl, by decide⟩ (g := (mkF m 97 #[.val (.int k), .val (.int f), .val (.int x0), .val (.int x1), .val (.int x2), .val (.int nn), .val (.int b0), .val (.int b1), .val (.int b2), .unset, .unset, .unset, .unset] [(.int b2), (.int (2 : Int32)), (.ref b16), (.ref b16)])) rfl rfl (hb hby at_97)
        refine own_by (fun t kk_ => st22 _ kk_) ?_
        have N22 := Fr.snoc X22 N20 gg_b16
        have sz22 : n0 ≤ h22.size := by rw [W22.size]; exact sz20
        show OwnG p e below s _ _ _ (T22.setTop (mkF m 98 #[.val (.int k), .val (.int f), .val (.int x0), .val (.int x1), .val (.int x2), .val (.int nn), .val (.int b0), .val (.int b1), .val (.int b2), .unset, .unset, .unset, .unset] [(.ref b16)]))
        refine own_by (fun t kk_ => XS.astore X22.here hx rfl (hb hby at_98) rfl rfl (l' := #[.val (.int k), .val (.int f), .val (.int x0), .val (.int x1), .val (.int x2), .val (.int nn), .val (.int b0), .val (.int b1), .val (.int b2), .val (.ref b16), .unset, .unset, .unset]) rfl kk_) ?_
        show OwnG p e below s _ _ _ (T22.setTop (mkF m 100 #[.val (.int k), .val (.int f), .val (.int x0), .val (.int x1), .val (.int x2), .val (.int nn), .val (.int b0), .val (.int b1), .val (.int b2), .val (.ref b16), .unset, .unset, .unset] []))
        obtain rfl := own_three h_nn hn0 hn1 hn2
        exact own_tail k f x0 x1 x2 b0 b1 b2 b16 3 X22 hx hby hml hret hlk hown hnm hZ hw e22 N22 sz22 (OwnA.congr A22 (fun i hi => by rcases i with _ | _ | _ | i <;> first | omega | simp [ownSet, own_g, hb0, hb1, hb2])) (by decide)
set_option maxRecDepth 65536 in
set_option maxHeartbeats 40000000 in
theorem comes_1 {Post : Tables → Env → Array Value → State → Outcome → State → Prop} (hpost : ∀ tb e args s v u, (limb_1_1.after args s (.returned v) u = true ∧ limb_1_2.after args s (.returned v) u = true ∧ True) → FrameEnd s (.returned v) u (Jvm.fieldLocs frame_1_writes args s ++ Jvm.arrayLocs frame_1_arrays args s ++ Jvm.staticLocs frame_1_statics s) 16 128 → Post tb e args s (.returned v) u) :
    ArmFor flags0 classFile x code maxLocals ret World_1 tables_1 room_1 Calls_1 rest_1 Pre_1 Post := by
  intro l hfl _ _ p e ha hc hk s m args below hf hA hF happ hP
  obtain ⟨hcalls, hrest, hpre⟩ := hP
  obtain ⟨-, -, -, hnamed, -, -, -, hat⟩ := (Spec.applies_iff hf).mp happ
  obtain ⟨hg, hn⟩ := and_e (Cond.before_iff.mp (show (Jvm.Cond.and given_1 narrow_1).before args s = true from hpre))
  obtain ⟨gc, gr0⟩ := and_e hg
  obtain ⟨ga0, gr1⟩ := and_e gr0
  obtain ⟨ga1, gr2⟩ := and_e gr1
  obtain ⟨ga2, gr3⟩ := and_e gr2
  obtain ⟨ga3, gr4⟩ := and_e gr3
  obtain ⟨w0, w1, w2, w3, w4, rfl⟩ : ∃ w0 w1 w2 w3 w4 : Value, args = #[w0, w1, w2, w3, w4] := by
    have hs : args.size = 5 := by simpa [Cond.value, given_1] using gc
    obtain ⟨L⟩ := args
    match L, hs with
    | [w0, w1, w2, w3, w4], _ => exact ⟨w0, w1, w2, w3, w4, rfl⟩
  have hw := fun d (hd : d ∈ tables_1) => atoms_spec (ws := Jvm.Cond.code x code maxLocals ret :: tables_1) hat d (List.mem_cons_of_mem _ hd)
  obtain ⟨i0, ei0⟩ := is_v ga0
  obtain rfl : w0 = (.int i0) := Option.some.inj ei0
  obtain ⟨i1, ei1⟩ := is_v ga1
  obtain rfl : w1 = (.int i1) := Option.some.inj ei1
  obtain ⟨i2, ei2⟩ := is_v ga2
  obtain rfl : w2 = (.int i2) := Option.some.inj ei2
  obtain ⟨i3, ei3⟩ := is_v ga3
  obtain rfl : w3 = (.int i3) := Option.some.inj ei3
  obtain ⟨i4, ei4⟩ := is_v gr4
  obtain rfl : w4 = (.int i4) := Option.some.inj ei4
  obtain ⟨n, o, h1, h2, h3, _, L, rfl, ⟨rfl, N⟩, hq⟩ := rm0 l s _ hw tables_1 i0 i1 i2 i3 i4 s.heap s.heap.size (Nat.le_refl _) p e ha hc hk s m _ below hf ((Spec.applies_iff_loose hf).mp happ).1 ⟨rfl, State.Warmed39.refl s, rfl⟩ trivial
  refine ⟨n, _, h1, h2, h3, hpost _ _ _ _ _ _ ⟨Cond.after_iff.mpr rfl, Cond.after_iff.mpr (eq_i res_at (Term.int_eval (1)) rfl), trivial⟩ ⟨hq.1, hq.2.1, (hq.2.2.sift fun y hy => Or.inr (N y hy)).mono (by decide) (by decide)⟩⟩
theorem main_1_1 : Claimed_1_1 := comes_1 fun _ _ _ _ _ _ h hF => ⟨h.1, hF⟩
theorem main_1_2 : Claimed_1_2 := comes_1 fun _ _ _ _ _ _ h hF => ⟨h.2.1, hF⟩
end Jvm.Pilot.@@N@@
namespace Jvm.Pilot.@@N@@
open Jvm Jvm.ClassFile Sem Op Lib Jvm.Free Jvm.Stand Jvm.Pilot.@@N@@.Jvm.D
/-! MADE BY PROGRAM (witnessworld.py) out of the Statement's table words and the real class files: 9 classes; the members and pool entries that the words name. The judged class is class 1, her method 1. -/
namespace start1
open Jvm.ClassFile
def u (s : String) : CpInfo := .utf8 (stringToUtf16 s)
/-- a pool by its gaps: so many unusable entries, then the entry; so many at the end -/
def gap : Nat → List CpInfo → List CpInfo
  | 0, r => r
  | n + 1, r => .unusable :: gap n r
def poolList (es : List (Nat × CpInfo)) (last : Nat) : List CpInfo := es.foldr (fun e r => gap e.1 (e.2 :: r)) (gap last [])
def pool (es : List (Nat × CpInfo)) (last : Nat) : Array CpInfo := ⟨poolList es last⟩
def fileOf (pool : Array CpInfo) (this : Nat) (attrs : Array Attribute := #[]) (ms : Array MethodInfo := #[]) (fl : Nat := 33) (sup : Nat := 0) (ifs : Array Nat := #[]) (fds : Array FieldInfo := #[]) : ClassFile where
  minorVersion := 0
  majorVersion := 65
  constantPool := pool
  accessFlags := fl
  thisClass := this
  superClass := sup
  interfaces := ifs
  fields := fds
  methods := ms
  attributes := attrs
def plain (name : String) (sup : Option ClassId) : Class where
  name := name
  kind := .ordinary
  loader := none
  accessFlags := 33
  super := sup
  interfaces := #[]
  cf := none
  fields := #[]
  methods := #[]
  instanceTypes := #[]
  staticTypes := #[]
  resolved := #[]
  callSites := []
  init := .initialized
  statics := none
  mirror := none

def pool0 : Array CpInfo := pool [(5, u "<init>"), (0, u "()V"), (1, .class_ 10), (1, u "java/lang/Object")] 113

def k0m0 : Method := { name := "<init>", desc := "()V", sig := { parameters := [], returnType := none }, accessFlags := 1, code := none }
/-- java/lang/Object -/
def k0 : Class := { plain "java/lang/Object" none with
  accessFlags := 33
  interfaces := #[]
  cf := some (fileOf pool0 8 #[] #[{ accessFlags := 1, nameIndex := 5, descriptorIndex := 6, attributes := #[] }] 33 0 #[] #[])
  fields := #[]
  methods := #[k0m0]
  instanceTypes := #[]
  staticTypes := #[]
  resolved := Array.replicate 124 none
  statics := none }

def pool1 : Array CpInfo := pool [(2, .class_ 4), (1, u "java/lang/Object"), (0, u "<init>"), (0, u "()V"), (0, .methodref 8 9), (0, .class_ 10), (0, .nameAndType 11 12), (0, u "com/example/syncline/syncline/transport/PacketsIsViewPinLaw"), (0, u "draw"), (0, u "(I)B"), (0, .integer 2147483647), (0, .methodref 15 16), (0, .class_ 17), (0, .nameAndType 18 19), (0, u "com/example/syncline/syncline/transport/Packets"), (0, u "isView"), (0, u "([BI)Z"), (2, u "law"), (0, u "(IIIII)Z")] 5

def k1m0 : Method := { name := "<init>", desc := "()V", sig := { parameters := [], returnType := none }, accessFlags := 1, code := none }
def k1c1 : Code := { maxStack := 4, maxLocals := 13, code := code, exceptionTable := #[], attributes := #[] }
def k1m1 : Method := { name := "law", desc := "(IIIII)Z", sig := { parameters := [.int, .int, .int, .int, .int], returnType := some .boolean }, accessFlags := 9, code := some k1c1 }
def k1c2 : Code := { maxStack := 2, maxLocals := 1, code := method_3_code, exceptionTable := #[], attributes := #[] }
def k1m2 : Method := { name := "draw", desc := "(I)B", sig := { parameters := [.int], returnType := some .byte }, accessFlags := 10, code := some k1c2 }
/-- com/example/syncline/syncline/transport/PacketsIsViewPinLaw -/
def k1 : Class := { plain "com/example/syncline/syncline/transport/PacketsIsViewPinLaw" (some 0) with
  accessFlags := 49
  interfaces := #[]
  cf := some (fileOf pool1 8 #[] #[{ accessFlags := 1, nameIndex := 5, descriptorIndex := 6, attributes := #[] }, { accessFlags := 9, nameIndex := 22, descriptorIndex := 23, attributes := #[] }, { accessFlags := 10, nameIndex := 11, descriptorIndex := 12, attributes := #[] }] 49 2 #[] #[])
  fields := #[]
  methods := #[k1m0, k1m1, k1m2]
  instanceTypes := #[]
  staticTypes := #[]
  resolved := Array.replicate 29 none
  statics := none }

def pool2 : Array CpInfo := pool [(8, .class_ 10), (1, u "java/lang/Object"), (0, u "<init>"), (0, u "()V"), (9, .class_ 24), (1, u "com/example/syncline/syncline/transport/Packets"), (315, .class_ 342), (1, u "com/example/syncline/syncline/transport/Packets$1"), (104, u "isView"), (0, u "([BI)Z"), (98, u "MAX_OVERHEAD_BYTES"), (0, u "I"), (2, u "MULTICAST"), (0, u "B"), (1, u "INSTALLED")] 72

def k2m0 : Method := { name := "<init>", desc := "()V", sig := { parameters := [], returnType := none }, accessFlags := 2, code := none }
def k2c1 : Code := { maxStack := 2, maxLocals := 2, code := prog_341_method_9_code, exceptionTable := #[], attributes := #[] }
def k2m1 : Method := { name := "isView", desc := "([BI)Z", sig := { parameters := [(.array .byte), .int], returnType := some .boolean }, accessFlags := 8, code := some k2c1 }
/-- com/example/syncline/syncline/transport/Packets -/
def k2 : Class := { plain "com/example/syncline/syncline/transport/Packets" (some 0) with
  accessFlags := 48
  interfaces := #[]
  cf := some (fileOf pool2 22 #[.nestMembers #[340]] #[{ accessFlags := 2, nameIndex := 11, descriptorIndex := 12, attributes := #[] }, { accessFlags := 8, nameIndex := 447, descriptorIndex := 448, attributes := #[] }] 48 8 #[] #[{ accessFlags := 24, nameIndex := 547, descriptorIndex := 548, attributes := #[] }, { accessFlags := 26, nameIndex := 551, descriptorIndex := 552, attributes := #[] }, { accessFlags := 26, nameIndex := 554, descriptorIndex := 552, attributes := #[] }])
  fields := #[{ name := "MAX_OVERHEAD_BYTES", type := .int, accessFlags := 24, slot := 0, constantValue := 0 }, { name := "MULTICAST", type := .byte, accessFlags := 26, slot := 1, constantValue := 0 }, { name := "INSTALLED", type := .byte, accessFlags := 26, slot := 2, constantValue := 0 }]
  methods := #[k2m0, k2m1]
  instanceTypes := #[]
  staticTypes := #[.int, .byte, .byte]
  resolved := Array.replicate 627 none
  statics := none }

def pool3 : Array CpInfo := pool [(1, u "java/lang/Cloneable"), (0, .class_ 1), (0, u "java/lang/Object"), (0, .class_ 3)] 3

/-- java/lang/Cloneable -/
def k3 : Class := { plain "java/lang/Cloneable" (some 0) with
  accessFlags := 1537
  interfaces := #[]
  cf := some (fileOf pool3 2 #[] #[] 1537 4 #[] #[])
  fields := #[]
  methods := #[]
  instanceTypes := #[]
  staticTypes := #[]
  resolved := Array.replicate 8 none
  statics := none }

def pool4 : Array CpInfo := pool [(1, u "java/io/Serializable"), (0, .class_ 1), (0, u "java/lang/Object"), (0, .class_ 3)] 3

/-- java/io/Serializable -/
def k4 : Class := { plain "java/io/Serializable" (some 0) with
  accessFlags := 1537
  interfaces := #[]
  cf := some (fileOf pool4 2 #[] #[] 1537 4 #[] #[])
  fields := #[]
  methods := #[]
  instanceTypes := #[]
  staticTypes := #[]
  resolved := Array.replicate 8 none
  statics := none }

/-- the primitive byte -/
def k5 : Class := { plain "byte" none with kind := .primitive 'B', accessFlags := 0x411 }
/-- [B -/
def k6 : Class := { plain "[B" (some 0) with kind := .array 5 .byte, interfaces := #[3, 4], accessFlags := 1041 }

/-- the primitive int -/
def k7 : Class := { plain "int" none with kind := .primitive 'I', accessFlags := 0x411 }
/-- [I -/
def k8 : Class := { plain "[I" (some 0) with kind := .array 7 .int, interfaces := #[3, 4], accessFlags := 1041 }

def heap : Heap := #[]
def classes : Array Class := #[k0, k1, k2, k3, k4, k5, k6, k7, k8]
def interned : List (Array UInt16 × Addr) := []
def slotsUsed : Nat := 0
def theMethod : MethodId := ⟨1, 1⟩
def args0 : Array Value := #[.int 5, .int 3, .int 3, .int 3, .int 3]
def aboutOver (below : List Frame) : State where
  vm := { classes := classes, interned := interned.toArray }
  heap := heap
  slotsUsed := slotsUsed
  threads := #[{ frames := .invoking theMethod args0 :: below }]
def below0 : List Frame := [.native { method := ⟨0, 0⟩, args := #[] }]
def about1 : State := aboutOver below0
def p0 : Program := .bare "" "" ""
def e0 : Env := launch0.env 0 0 0
theorem w_frames : about1.frames = Frame.invoking theMethod args0 :: below0 := rfl
set_option maxRecDepth 65536 in
theorem w_args : argsFit about1.vm theMethod args0 = true := by decide +kernel
set_option maxRecDepth 65536 in
theorem w_heap : heapFits about1 = true := by decide +kernel
set_option maxRecDepth 65536 in
theorem w_runnable : about1.curStatus? = some .runnable := by decide +kernel
set_option maxRecDepth 65536 in
theorem w_alone : about1.alone = true := by decide +kernel
set_option maxRecDepth 65536 in
theorem w_named : about1.methodNamed? x = some theMethod := by decide +kernel
set_option maxRecDepth 65536 in
theorem w_hears : about1.hears theMethod below0 = true := by decide +kernel
set_option maxRecDepth 65536 in
theorem w_ripe : about1.ripe theMethod args0 below0 = true := by decide +kernel
theorem w_running : about1.status = .running := rfl
set_option maxRecDepth 65536 in
theorem w_room : about1.hasRoom e0.platform room_1 = true :=
  launch0.hasRoom_least _ room_1 (by decide +kernel) (by decide +kernel) (by decide +kernel) (by decide +kernel) (by decide +kernel) (by decide +kernel)
theorem allAtoms_all (ts : List Jvm.Cond) (a : Array Jvm.Value) (st : Jvm.State) : (allAtoms ts).before a st = ts.all (fun c => c.before a st) := by
  induction ts with
  | nil => rfl
  | cons c t ih =>
    show (Jvm.Cond.and c (allAtoms t)).before a st = _
    rw [Jvm.Cond.before_and, ih, List.all_cons]
def words1 : List Jvm.Cond := Jvm.Cond.code x code maxLocals ret :: tables_1
/-- a 'code' word, met by the world's own term for the bytes: nothing is compared byte by byte -/
theorem code_word {y : MethodName} {bytes : ByteArray} {mx : Nat} {rt : Option FieldType} {a : Array Value} {s : State} {m : MethodId} {meth : Method} {c : Code} (h1 : s.methodNamed? y = some m) (h2 : s.vm.method? m = some meth) (h3 : meth.code = some c) (h4 : c.code = bytes)
    (h5 : (c.maxLocals == mx && c.exceptionTable.isEmpty && decide (c.maxStack ≤ mostOperands) && decide (meth.sig.returnType = rt) && !meth.locks && decide (parseMethodDescriptor y.desc = some meth.sig)) = true) : (Jvm.Cond.code y bytes mx rt).before a s = true := by
  simp only [Bool.and_eq_true, beq_iff_eq, Bool.not_eq_true', decide_eq_true_eq] at h5
  obtain ⟨⟨⟨⟨⟨g1, g2⟩, g3⟩, g4⟩, g5⟩, g6⟩ := h5
  simp [Cond.before, Cond.holds, Cond.value, h1, h2, h3, h4, g1, g2, g3, g4, g5, g6]
def isCode : Jvm.Cond → Bool
  | .code _ _ _ _ => true
  | _ => false
theorem all_split {L : List Jvm.Cond} {P : Jvm.Cond → Bool} (h1 : L.all (fun c => isCode c || P c) = true) (h2 : ∀ c ∈ L.filter isCode, P c = true) : L.all P = true := by
  refine List.all_eq_true.mpr fun c hc => ?_
  have h := List.all_eq_true.mp h1 c hc
  rcases Bool.eq_false_or_eq_true (isCode c) with hi | hi
  · exact h2 c (List.mem_filter.mpr ⟨hc, hi⟩)
  · simpa [hi] using h
set_option maxRecDepth 65536 in
theorem w_c0 : (Jvm.Cond.code x code maxLocals ret).before args0 about1 = true := code_word (m := ⟨1, 1⟩) (meth := k1m1) (c := k1c1) (by decide +kernel) rfl rfl rfl (by decide +kernel)
set_option maxRecDepth 65536 in
theorem w_c1 : (Jvm.Cond.code ({ cls := "com/example/syncline/syncline/transport/PacketsIsViewPinLaw", name := "draw", desc := "(I)B" } : Jvm.MethodName) method_3_code (1 : Nat) (Option.some Jvm.ClassFile.FieldType.byte)).before args0 about1 = true := code_word (m := ⟨1, 2⟩) (meth := k1m2) (c := k1c2) (by decide +kernel) rfl rfl rfl (by decide +kernel)
set_option maxRecDepth 65536 in
theorem w_c2 : (Jvm.Cond.code ({ cls := "com/example/syncline/syncline/transport/Packets", name := "isView", desc := "([BI)Z" } : Jvm.MethodName) prog_341_method_9_code (2 : Nat) (Option.some Jvm.ClassFile.FieldType.boolean)).before args0 about1 = true := code_word (m := ⟨2, 1⟩) (meth := k2m1) (c := k2c1) (by decide +kernel) rfl rfl rfl (by decide +kernel)
def codes1 : List Jvm.Cond := [Jvm.Cond.code x code maxLocals ret, Jvm.Cond.code ({ cls := "com/example/syncline/syncline/transport/PacketsIsViewPinLaw", name := "draw", desc := "(I)B" } : Jvm.MethodName) method_3_code (1 : Nat) (Option.some Jvm.ClassFile.FieldType.byte), Jvm.Cond.code ({ cls := "com/example/syncline/syncline/transport/Packets", name := "isView", desc := "([BI)Z" } : Jvm.MethodName) prog_341_method_9_code (2 : Nat) (Option.some Jvm.ClassFile.FieldType.boolean)]
set_option maxRecDepth 65536 in
theorem codes_eq : words1.filter isCode = codes1 := rfl
theorem w_codes : ∀ c ∈ words1.filter isCode, c.before args0 about1 = true := by
  rw [codes_eq]
  intro c hc
  simp only [codes1, List.mem_cons, List.not_mem_nil, or_false] at hc
  rcases hc with rfl | rfl | rfl
  · exact w_c0
  · exact w_c1
  · exact w_c2
set_option maxRecDepth 65536 in
theorem w_t1 : words1.all (fun c => isCode c || c.before args0 about1) = true := by decide +kernel
theorem w_tables : (allAtoms (Jvm.Cond.code x code maxLocals ret :: tables_1)).before args0 about1 = true := by
  rw [allAtoms_all]
  show words1.all (fun c => c.before args0 about1) = true
  refine all_split ?_ w_codes
  rw [w_t1]
set_option maxRecDepth 65536 in
theorem w_case : (Jvm.Cond.and given_1 narrow_1).before args0 about1 = true := by decide +kernel
theorem w_applies : (headSpec (Jvm.Cond.code x code maxLocals ret :: tables_1) room_1).applies x e0.platform about1 = true :=
  (Spec.applies_iff w_frames).mpr ⟨w_running, w_runnable, w_alone, w_named, w_hears, w_ripe, w_room, w_tables⟩
theorem atStart : AtStart classFile x code maxLocals ret World_1 tables_1 room_1 Calls_1 rest_1 Pre_1 launch0 p0 e0 about1 theMethod args0 below0 :=
  ⟨lists_1, trivial, launch0.admits_env _ _ _, launch0.least_env, fairChoices_fair.cas, fairChoices_fair.clock, w_frames, w_args, w_heap, w_applies, trivial, trivial, w_case⟩
end start1
theorem witness_1 : WitnessClaimed_1 := ⟨start1.p0, start1.e0, start1.about1, start1.theMethod, start1.args0, start1.below0, start1.atStart⟩
end Jvm.Pilot.@@N@@
